import PyProof.Rows.All
import Wide.All
import OpenK.AllK
import Wide.FinOn
import PySem.Challenge.RW_is0007_01
open PySem PySem.W PyProof.Rows
set_option Elab.async false
set_option linter.all false
set_option maxRecDepth 100000
set_option maxHeartbeats 8000000
namespace Mine
open_top hd for PySem.Challenge.rw_is0007_01
noncomputable abbrev Led := List (Addr × Obj)
/-- a contract of a call -/
noncomputable abbrev Call (w : World) (f : Addr) (dN uN : Nat) (news : Led) (vs : List Value) (R : Value → Led → Prop) : Prop :=
  ∀ (mean : ExcName → Option Value) (mg mb : Str → Option Value) (dp un : Nat) (gd : Option (List Code)) (cn : Str) (cs : Scope) (a : Addr) (ccd : Value) (cl : List (Str × Addr)) (outer : List Env) (A₀ : Around) (base h₀ : Heap) (L : Addr) (m : Str → Option Value) (s : Shared) (Q E : Value → Shared → Prop),
    Below A₀ base outer h₀ → Fr h₀ L s.heap m → (hd.heap_39 w.params).In h₀ → News h₀ L s.heap news → Top hd.view_39 (looseW hd.view_39 []) mean mg mb h₀ → cs.kind = .function →
    dp + dN < recursionLimit → un + uN < cLine →
    (∀ v news' h' tk', R v news' → Fr h₀ L h' m → News h₀ L h' news' → Q v { s with heap := h', toks := tk' }) →
    wpAny (model Challenge.rw_is0007_01.row.prog w) (ktrTop dp un gd cn cs L a ccd cl outer) (call (.ref f) vs) Q E s

/-- a contract of a call that raises AssertionError -/
noncomputable abbrev CallE (w : World) (f : Addr) (dN uN : Nat) (news : Led) (vs : List Value) : Prop :=
  ∀ (mean : ExcName → Option Value) (mg mb : Str → Option Value) (dp un : Nat) (gd : Option (List Code)) (cn : Str) (cs : Scope) (a : Addr) (ccd : Value) (cl : List (Str × Addr)) (outer : List Env) (A₀ : Around) (base h₀ : Heap) (L : Addr) (m : Str → Option Value) (s : Shared) (Q E : Value → Shared → Prop),
    Below A₀ base outer h₀ → Fr h₀ L s.heap m → (hd.heap_39 w.params).In h₀ → News h₀ L s.heap news → Top hd.view_39 (looseW hd.view_39 []) mean mg mb h₀ → cs.kind = .function →
    dp + dN < recursionLimit → un + uN < cLine →
    (∀ e G h' tk', RaisedSN base G (envX cn cs L a ccd cl :: outer) e (.type "AssertionError") news h' → Fr h₀ L G m → G.UpToSlots h' → E (.ref e) { s with heap := h', toks := tk' }) →
    wpAny (model Challenge.rw_is0007_01.row.prog w) (ktrTop dp un gd cn cs L a ccd cl outer) (call (.ref f) vs) Q E s

/-- a contract of a call out of the law's own frame -/
noncomputable abbrev CallS (w : World) (f : Addr) (dN uN : Nat) (news : Led) (vs : List Value) (R : Value → Led → Prop) : Prop :=
  ∀ (mean : ExcName → Option Value) (mg mb : Str → Option Value) (dp un : Nat) (gd : Option (List Code)) (cn : Str) (cs : Scope) (a : Addr) (ccd : Value) (A₀ : Around) (base h₀ : Heap) (L : Addr) (m : Str → Option Value) (s : Shared) (Q E : Value → Shared → Prop),
    Below A₀ base [] h₀ → Fr h₀ L s.heap m → (hd.heap_39 w.params).In h₀ → News h₀ L s.heap news → Top hd.view_39 (looseW hd.view_39 []) mean mg mb h₀ → (hd.heap_39 w.params).In base → Top hd.view_39 (looseW hd.view_39 []) mean mg mb base → cs.kind = .function →
    dp + dN < recursionLimit → un + uN < cLine →
    (∀ v news' h' tk', R v news' → Fr h₀ L h' m → News h₀ L h' news' → Q v { s with heap := h', toks := tk' }) →
    wpAny (model Challenge.rw_is0007_01.row.prog w) (ktrTop dp un gd cn cs L a ccd [] []) (call (.ref f) vs) Q E s

theorem ret_ {R : Value → Led → Prop} {h₀ h' : Heap} {L : Addr} {m : Str → Option Value} {s : Shared} {Q : Value → Shared → Prop} {v : Value} {news' : Led} {tk' : Nat}
  (hret : ∀ v news' h' tk', R v news' → Fr h₀ L h' m → News h₀ L h' news' → Q v { s with heap := h', toks := tk' }) (F : Fr h₀ L h' m) (N : News h₀ L h' news') (r : R v news') :
   Q v { s with heap := h', toks := tk' } := hret v news' h' tk' r F N
noncomputable def StopAt (p : Prop) : Prop := p
theorem stopAt {p : Prop} (h : StopAt p) : p := h
theorem StopAt.intro {p : Prop} (h : p) : StopAt p := h
theorem tidy {α : Type} {M : Model} {A : Around} {T : Sem α} {Q : α → Shared → Prop} {E : Value → Shared → Prop} {h : Heap} {g d o} {t : Nat} (H : ∀ t', wpAny M A T Q E (Shared.mk h g d t' o)) : wpAny M A T Q E (Shared.mk h g d t o) := H t
theorem mtail {α : Type} {a b : α} {l : List α} (h : a ∈ l) : a ∈ b :: l := List.mem_cons_of_mem _ h
/-- the frame under a name -/
theorem useF {h₀ h : Heap} {L : Addr} {M : Str → Option Value} {G : Prop} (H : let m9 := M; Fr h₀ L h m9 → G) (F : Fr h₀ L h M) : G := H F
local macro_rules | `(tactic| walk_at $s:str) => `(tactic| k_extra $s)
local macro_rules | `(tactic| k_all) => `(tactic| k_extra "all")
local macro_rules | `(tactic| k_upd) => `(tactic| k_extra "upd")
local macro_rules | `(tactic| cell_enter) => `(tactic| k_extra "enter")
local macro_rules | `(tactic| k_mem) => `(tactic| k_extra "mem")

noncomputable abbrev tupO (vs : List Value) (n : Nat) : Obj := { cls := .type "tuple", data := .seq vs.toArray n }
/-- the signs of a list of texts -/
noncomputable def txt (L : List Str) : List Nat := (L.map fun a => a.cps.toList).flatten
theorem append_cps (a b : Str) : (a ++ b).cps.toList = a.cps.toList ++ b.cps.toList := by
  show (a.cps ++ b.cps).toList = _; simp
theorem join_cps : ∀ L : List Str, (PySem.Txt.join (Str.ofString "") L).cps.toList = txt L := by
  intro L
  show (Builtin.Str.glued (Str.ofString "") L).cps.toList = _
  rw [StrLaws.glued_eq_join]
  have z : (Str.ofString "").cps.toList = [] := by decide
  induction L with
  | nil => rfl
  | cons a r ih =>
    cases r with
    | nil => simp [Str.join, txt]
    | cons b r => 
      simp only [Str.join, append_cps, z, List.append_nil, ih]
      simp [txt]
theorem join_eq (L : List Str) : PySem.Txt.join (Str.ofString "") L = ⟨(txt L).toArray⟩ := by
  have h := join_cps L
  cases q : PySem.Txt.join (Str.ofString "") L with
  | mk c => rw [q] at h; rw [← h]
theorem join_le (L : List Str) (h : ∀ a ∈ L, a.length ≤ 1) : (PySem.Txt.join (Str.ofString "") L).length ≤ L.length := by
  rw [join_eq]
  show (txt L).toArray.size ≤ _
  rw [List.size_toArray]
  induction L with
  | nil => exact Nat.le_refl _
  | cons a r ih =>
    have h1 : a.cps.toList.length ≤ 1 := by have := h a (by simp); simpa [Str.length] using this
    have h2 := ih fun b hb => h b (by simp [hb])
    have e : txt (a :: r) = a.cps.toList ++ txt r := by simp [txt]
    rw [e, List.length_append, List.length_cons]
    lia

/-- the law's own state -/
structure St where
  (l r : List Str) (behind back bra ket : Int)
noncomputable abbrev St.text (S : St) : Str := PySem.Txt.join (Str.ofString "") (S.l ++ S.r)
structure Tool where
  (cur : Str) (cursor limit back bra ket : Int)
/-- the tool as it is due -/
noncomputable abbrev toolOf (S : St) : Tool := ⟨S.text, S.l.length, S.text.length - S.behind, S.back, S.bra, S.ket⟩
noncomputable def pick {α : Type} (l : List α) (lo hi : Option Int) : List α := (l.drop (kms_lo lo l.length)).take (kms_hi hi l.length - kms_lo lo l.length)
noncomputable abbrev St.cut (S : St) (lo hi : Int) (g : List Str) : St :=
  if hi ≤ S.l.length then ⟨pick S.l none (some lo) ++ g ++ pick S.l (some hi) none, S.r, S.behind, S.back, S.bra, S.ket⟩
  else if (S.l.length : Int) ≤ lo then ⟨S.l, pick S.r none (some (lo - S.l.length)) ++ g ++ pick S.r (some (hi - S.l.length)) none, S.behind, S.back, S.bra, S.ket⟩
  else ⟨pick S.l none (some lo), g ++ pick S.r (some (hi - S.l.length)) none, S.behind, S.back, S.bra, S.ket⟩
noncomputable def Ones (L : List Str) : Prop := ∀ a ∈ L, a.length = 1
theorem Ones.app {a b : List Str} (ha : Ones a) (hb : Ones b) : Ones (a ++ b) := fun x hx => (List.mem_append.mp hx).elim (ha x) (hb x)
theorem Ones.pick {a : List Str} (ha : Ones a) (lo hi : Option Int) : Ones (pick a lo hi) := fun x hx => ha x (List.mem_of_mem_drop (List.mem_of_mem_take hx))
theorem ones_signs (z : Str) : Ones (signs z) := sign_length_one z
theorem Ones.sum {L : List Str} (h : Ones L) : (L.map (·.length)).sum = L.length := sumLen_of_ones L h
theorem txt_len {L : List Str} (h : Ones L) : (txt L).length = L.length := by
  induction L with
  | nil => rfl
  | cons a r ih =>
    have h1 : a.cps.toList.length = 1 := by have := h a (by simp); simpa [Str.length] using this
    have e : txt (a :: r) = a.cps.toList ++ txt r := by simp [txt]
    rw [e, List.length_append, List.length_cons, ih fun b hb => h b (by simp [hb]), h1]
    lia
theorem join_len {L : List Str} (h : Ones L) : (PySem.Txt.join (Str.ofString "") L).length = L.length := by
  rw [join_eq]
  show (txt L).toArray.size = _
  rw [List.size_toArray, txt_len h]
theorem strs_app {vs ws : List Value} {a b : List Str} (h : StrsAre vs a) (g : StrsAre ws b) : StrsAre (vs ++ ws) (a ++ b) := by
  induction h with
  | nil => exact g
  | cons y t _ ih => exact .cons y t ih
theorem strs_take {vs : List Value} {ss : List Str} (h : StrsAre vs ss) : ∀ k : Nat, StrsAre (vs.take k) (ss.take k) := by
  induction h with
  | nil => intro k; simp; exact .nil
  | cons y t _ ih => intro k; cases k with
    | zero => exact .nil
    | succ k => exact .cons y t (ih k)
theorem strs_len {vs : List Value} {ss : List Str} (h : StrsAre vs ss) : vs.length = ss.length := by
  induction h with
  | nil => rfl
  | cons y t _ ih => simp [ih]
theorem strs_pick {vs : List Value} {ss : List Str} (h : StrsAre vs ss) (lo hi : Option Int) : StrsAre (pick vs lo hi) (pick ss lo hi) := by
  unfold pick
  rw [strs_len h]
  exact strs_take (h.drop' _) _
theorem pick_le {α : Type} (l : List α) (lo hi : Option Int) : (pick l lo hi).length ≤ l.length := by
  unfold pick
  rw [List.length_take, List.length_drop]
  exact Nat.le_trans (Nat.min_le_right _ _) (Nat.sub_le _ _)
theorem strs_of_comp {vs : List Value} {z : Str} (h : CarriedAll vs (List.map PyData.str (List.filter (fun _ => true) (signs z)))) : StrsAre vs (signs z) := by
  rw [List.filter_eq_self.mpr (by intros; rfl)] at h
  exact StrsAre.of_carried h
theorem pick_of {α : Type} (l : List α) (lo hi : Option Int) : pick l lo hi = pick l lo hi := rfl
theorem le1 {p q l r g : Nat} (h : p ≤ l) (h' : q ≤ l) : p + g + q + r ≤ 2 * (l + r) + g := by lia
theorem le2 {p q l r g : Nat} (h : p ≤ r) (h' : q ≤ r) : l + (p + g + q) ≤ 2 * (l + r) + g := by lia
theorem le3 {p q l r g : Nat} (h : p ≤ l) (h' : q ≤ r) : p + (g + q) ≤ 2 * (l + r) + g := by lia
theorem cut_le (S : St) (lo hi : Int) (g : List Str) : (S.cut lo hi g).l.length + (S.cut lo hi g).r.length ≤ 2 * (S.l.length + S.r.length) + g.length := by
  unfold St.cut
  split
  · simp only [List.length_append]; exact le1 (pick_le _ _ _) (pick_le _ _ _)
  · split <;> simp only [List.length_append]
    · exact le2 (pick_le _ _ _) (pick_le _ _ _)
    · exact le3 (pick_le _ _ _) (pick_le _ _ _)
section
variable {prog : Program} {w : World} {A : Around} {E : Value → Shared → Prop} {s : Shared} {h₀ : Heap} {L l b : Addr} {m : Str → Option Value} {news : List (Addr × Obj)} {value slice : PySem.Expr} {vs ws : List Value} {ss zs : List Str} {vl vu : Value} {lo hi : Option Int} {Q : Value → Shared → Prop} {k kb : Nat}
theorem sl_slice (F : Fr h₀ L s.heap m) (N : News h₀ L s.heap news) (hl : (l, listOf vs.toArray k) ∈ news) (pl : IsPart vl lo) (pu : IsPart vu hi) (hi' : StrsAre vs ss) (hz : ss.length < 2000)
    (h : ∀ D xs h', Fr h₀ L h' m → News h₀ L h' ((D, listOf (List.toArray xs) 0) :: news) → (∀ p ∈ news, p.1 < D) → StrsAre xs (pick ss lo hi) → (pick ss lo hi).length ≤ ss.length → Q (.ref D) { s with heap := h' })
    (hs : subscripted slice false (.ref l) (.ref s.heap.objs.size) = operate [.ref s.heap.objs.size, .ref l] (getItem (.ref l) (.ref s.heap.objs.size))) (ht : ∀ r, letTemporaryGo value (.ref l) r = pure ()) :
    wpAny (model prog w) A (subscriptTail value slice (.ref l) (.ref s.heap.objs.size)) Q E { s with heap := s.heap.push { cls := .type "slice", data := .fields #[vl, vu, .none] } } := by
  refine kmk_slice F N (News.isList N hl) pl pu (fun D h' F' N' l1 => ?_) hs ht ?_
  · rw [kms_pick_eq] at N'
    exact h D _ h' F' N' l1 (strs_pick hi' lo hi) (pick_le _ _ _)
  · rw [List.size_toArray, strs_len hi', PySem.sizeLine_eq]; lia
theorem sl_add (F : Fr h₀ L s.heap m) (N : News h₀ L s.heap news) (hl : (l, listOf vs.toArray k) ∈ news) (hb : (b, listOf ws.toArray kb) ∈ news) (hi : StrsAre vs ss) (hj : StrsAre ws zs) (hz : ss.length + zs.length < 4000)
    (h : ∀ D xs h', Fr h₀ L h' m → News h₀ L h' ((D, listOf (List.toArray xs) 0) :: news) → (∀ p ∈ news, p.1 < D) → StrsAre xs (ss ++ zs) → Q (.ref D) { s with heap := h' }) :
    wpAny (model prog w) A (binaryOp .Add (.ref l) (.ref b)) Q E s :=
  add_lists (hsz := by rw [strs_len hi, strs_len hj, PySem.sizeLine_eq]; lia) F N (News.isList N hl) (News.isList N hb) (fun h' F' N' => h _ _ h' F' N' (fun p hp => Heap.lt_size (N p hp).1) (strs_app hi hj))
theorem sl_len (N : News h₀ L s.heap news) (hl : (l, listOf vs.toArray k) ∈ news) (hi : StrsAre vs ss) (hz : ss.length < 4000)
    (h : Q (.int ss.length (s.toks + 1)) { s with toks := s.toks + 1 + 1 }) : wpAny (model prog w) A (call (.builtin "len") [.ref l]) Q E s := by
  refine PySem.Calls.call_len_list (News.isList N hl) ?_ ?_
  · rw [List.size_toArray, strs_len hi]; lia
  · rw [List.size_toArray, strs_len hi]; exact h
theorem sl_join {t : Tok} (N : News h₀ L s.heap news) (hl : (l, listOf vs.toArray k) ∈ news) (hi : StrsAre vs ss) (h1 : Ones ss) (hz : ss.length < 4000)
    (h : ∀ t' k, (PySem.Txt.join (Str.ofString "") ss).length < 4000 → Q (.str (PySem.Txt.join (Str.ofString "") ss) t') { s with toks := k }) : wpAny (model prog w) A (call (.builtin "str.join") [.str (Str.ofString "") t, .ref l]) Q E s :=
  join_listW (News.isList N hl) (by simpa using hi) (by decide) (by rw [h1.sum]; lia) (fun t' k => h t' k (by rw [join_len h1]; exact hz))
theorem tup_item {a : Addr} {l : List Value} {n : Nat} {i : Int} {u : Tok} {j : Nat} {x : Value} (N : News h₀ L s.heap news) (ha : (a, tupO l n) ∈ news) (hlo : -(2 ^ 63) ≤ i) (hhi : i < 2 ^ 63) (hj : seqIndex? i l.length = some j) (hx : l[j]? = some x) (h : Q x s)
    (hs : subscripted slice false (.ref a) (.int i u) = operate [.ref a, .int i u] (getItem (.ref a) (.int i u))) : wpAny (model prog w) A (subscriptTail value slice (.ref a) (.int i u)) Q E s :=
  item_tupleT (News.isTup N ha) hlo hhi hj hx h hs
end
structure Keys where
  (a b c d e f : Tok)
noncomputable abbrev stemEs (w : World) (κ τ : Keys) (T : Tool) : List DictEntry :=
  [⟨PyData.keyHash w.params (Str.ofString "current"), .str (Str.ofString "current") κ.a, .str T.cur τ.a⟩,
   ⟨PyData.keyHash w.params (Str.ofString "cursor"), .str (Str.ofString "cursor") κ.b, .int T.cursor τ.b⟩,
   ⟨PyData.keyHash w.params (Str.ofString "limit"), .str (Str.ofString "limit") κ.c, .int T.limit τ.c⟩,
   ⟨PyData.keyHash w.params (Str.ofString "limit_backward"), .str (Str.ofString "limit_backward") κ.d, .int T.back τ.d⟩,
   ⟨PyData.keyHash w.params (Str.ofString "bra"), .str (Str.ofString "bra") κ.e, .int T.bra τ.e⟩,
   ⟨PyData.keyHash w.params (Str.ofString "ket"), .str (Str.ofString "ket") κ.f, .int T.ket τ.f⟩]
/-- the dict of a stemmer -/
noncomputable abbrev stem (w : World) (κ τ : Keys) (T : Tool) : Obj := dictOf (stemEs w κ τ T) 6
theorem stem_eq {w : World} {κ : Keys} {o : Obj} {U : Tool} {c1 : Str} {c2 c3 c4 c5 c6 : Int} {t1 t2 t3 t4 t5 t6 : Tok} (h : (⟨c1, c2, c3, c4, c5, c6⟩ : Tool) = U)
  (ho : o = dictOf [⟨PyData.keyHash w.params (Str.ofString "current"), .str (Str.ofString "current") κ.a, .str c1 t1⟩,
   ⟨PyData.keyHash w.params (Str.ofString "cursor"), .str (Str.ofString "cursor") κ.b, .int c2 t2⟩,
   ⟨PyData.keyHash w.params (Str.ofString "limit"), .str (Str.ofString "limit") κ.c, .int c3 t3⟩,
   ⟨PyData.keyHash w.params (Str.ofString "limit_backward"), .str (Str.ofString "limit_backward") κ.d, .int c4 t4⟩,
   ⟨PyData.keyHash w.params (Str.ofString "bra"), .str (Str.ofString "bra") κ.e, .int c5 t5⟩,
   ⟨PyData.keyHash w.params (Str.ofString "ket"), .str (Str.ofString "ket") κ.f, .int c6 t6⟩] 6) : ∃ τ, o = stem w κ τ U :=
  ⟨⟨t1, t2, t3, t4, t5, t6⟩, by subst h; exact ho⟩

/-- the ledger, split at one object -/
inductive Spl (d : Addr) (o : Obj) : Led → Led → Led → Prop
  | head {r} : (∀ p ∈ r, p.1 ≠ d) → Spl d o ((d, o) :: r) [] r
  | tail {p r pre post} : p.1 ≠ d → Spl d o r pre post → Spl d o (p :: r) (p :: pre) post
theorem Spl.perm {d : Addr} {o : Obj} {news pre post : Led} (h : Spl d o news pre post) : (∀ p ∈ (d, o) :: (pre ++ post), p ∈ news) ∧ ∀ p ∈ pre ++ post, p.1 ≠ d := by
  induction h with
  | head ha => exact ⟨fun p hp => by simpa using hp, fun p hp => ha p (by simpa using hp)⟩
  | tail hn _ ih =>
    refine ⟨fun p hp => ?_, fun p hp => ?_⟩
    · simp only [List.cons_append, List.mem_cons] at hp ⊢
      rcases hp with rfl | rfl | hp
      · exact .inr (ih.1 _ (by simp))
      · exact .inl rfl
      · exact .inr (ih.1 _ (by simp [hp]))
    · simp only [List.cons_append, List.mem_cons] at hp
      rcases hp with rfl | hp
      · exact hn
      · exact ih.2 p hp
theorem Spl.mem {d : Addr} {o : Obj} {news pre post : Led} (h : Spl d o news pre post) {p : Addr × Obj} (hp : p ∈ news) (hn : p.1 ≠ d) : p ∈ pre ++ post := by
  induction h with
  | head ha =>
    rcases List.mem_cons.mp hp with rfl | hp
    · exact absurd rfl hn
    · exact hp
  | tail _ _ ih =>
    rcases List.mem_cons.mp hp with rfl | hp
    · exact List.mem_cons_self
    · exact List.mem_cons_of_mem _ (ih hp)
theorem Spl.mem_ne {d : Addr} {o : Obj} {news pre post : Led} (h : Spl d o news pre post) {p : Addr × Obj} (hp : p ∈ news) (hn : p.2 ≠ o) : p ∈ pre ++ post := by
  induction h with
  | head ha =>
    rcases List.mem_cons.mp hp with rfl | hp
    · exact absurd rfl hn
    · exact hp
  | tail _ _ ih =>
    rcases List.mem_cons.mp hp with rfl | hp
    · exact List.mem_cons_self
    · exact List.mem_cons_of_mem _ (ih hp)
theorem Spl.inst {w : World} {κ τ : Keys} {T : Tool} {d x dx : Addr} {news pre post : Led} (h : Spl d (stem w κ τ T) news pre post) (hp : (x, instObj 199 dx) ∈ news) : (x, instObj 199 dx) ∈ pre ++ post :=
  h.mem_ne hp fun e => by have := congrArg Obj.cls e; cases this
theorem Call.mono {w : World} {f : Addr} {dN uN : Nat} {n1 n2 : Led} {vs : List Value} {R R' : Value → Led → Prop} (h : Call w f dN uN n1 vs R) (hs : ∀ p ∈ n1, p ∈ n2)
    (hR : ∀ v n, R v n → ∃ n', R' v n' ∧ ∀ p ∈ n', p ∈ n) : Call w f dN uN n2 vs R' := by
  intro mean mg mb dp un gd cn cs a ccd cl outer A₀ base h₀ L m s Q E hB hF hX hN hT hk hd hu hret
  refine h mean mg mb dp un gd cn cs a ccd cl outer A₀ base h₀ L m s Q E hB hF hX (fun p hp => hN p (hs p hp)) hT hk hd hu (fun v news' h' tk' hr F N => ?_)
  obtain ⟨n', r', hsub⟩ := hR v news' hr
  exact hret v n' h' tk' r' F (fun p hp => N p (hsub p hp))
theorem Call.spl {w : World} {f : Addr} {dN uN : Nat} {d : Addr} {o : Obj} {news pre post : Led} {vs : List Value} {P : Value → Obj → Prop}
    (h : Call w f dN uN ((d, o) :: (pre ++ post)) vs (fun v n => ∃ o', P v o' ∧ n = (d, o') :: (pre ++ post))) (S : Spl d o news pre post) :
    Call w f dN uN news vs (fun v n => ∃ o', P v o' ∧ n = pre ++ (d, o') :: post) := by
  refine h.mono S.perm.1 ?_
  rintro v n ⟨o', hp, rfl⟩
  refine ⟨_, ⟨o', hp, rfl⟩, fun p hp => ?_⟩
  simp only [List.mem_append, List.mem_cons] at hp ⊢
  rcases hp with h | h | h
  · exact .inr (.inl h)
  · exact .inl h
  · exact .inr (.inr h)

/-- replace_s, set_current: what they make of the tool -/
noncomputable abbrev Tool.repl (T : Tool) (lo hi : Int) (z : Str) : Tool :=
  ⟨Txt.slice T.cur (some 0) (some lo) ++ z ++ Txt.slice T.cur (some hi) none, if hi ≤ T.cursor then T.cursor + (z.length - (hi - lo)) else if lo < T.cursor then lo else T.cursor, T.limit + (z.length - (hi - lo)), T.back, T.bra, T.ket⟩
noncomputable abbrev freshT (cur : Str) : Tool := ⟨cur, 0, cur.length, 0, 0, cur.length⟩
noncomputable abbrev Tool.ins (T : Tool) (lo hi : Int) (z : Str) : Tool :=
  ⟨(T.repl lo hi z).cur, (T.repl lo hi z).cursor, (T.repl lo hi z).limit, T.back, if lo ≤ T.bra then T.bra + (z.length - (hi - lo)) else T.bra, if lo ≤ T.ket then T.ket + (z.length - (hi - lo)) else T.ket⟩
theorem ins_eq (T : Tool) (lo hi : Int) (z : Str) {U : Tool} (h1 : U.cur = (T.repl lo hi z).cur) (h2 : U.cursor = (T.repl lo hi z).cursor) (h3 : U.limit = (T.repl lo hi z).limit) (h4 : U.back = T.back)
  (h5 : U.bra = if lo ≤ T.bra then T.bra + (z.length - (hi - lo)) else T.bra) (h6 : U.ket = if lo ≤ T.ket then T.ket + (z.length - (hi - lo)) else T.ket) : U = T.ins lo hi z := by
  cases U; simp only [Tool.ins] at *; simp [*]
noncomputable abbrev Tool.from (T : Tool) (z : Str) : Tool :=
  ⟨(T.repl T.bra T.ket z).cur, (T.repl T.bra T.ket z).cursor, (T.repl T.bra T.ket z).limit, T.back, T.bra, T.bra + z.length⟩
theorem all_ne_of_lt {l : Led} {d e : Nat} (h : ∀ p ∈ l, p.1 < d) (hd : d ≤ e) : ∀ p ∈ l, p.1 ≠ e := fun p hp => Nat.ne_of_lt (Nat.lt_of_lt_of_le (h p hp) hd)

/-- what a call that turns one tool gives -/
inductive ObjR (w : World) (κ : Keys) (U : Tool) (d : Addr) (pre post : Led) (P : Value → Prop) : Value → Led → Prop
  | mk (v : Value) (τ : Keys) (h : P v) : ObjR w κ U d pre post P v (pre ++ (d, stem w κ τ U) :: post)
theorem Call.obj {w : World} {f : Addr} {dN uN : Nat} {news pre post : Led} {vs : List Value} {κ : Keys} {U : Tool} {d : Addr} {P : Value → Prop}
    (h : Call w f dN uN news vs (fun v n => ∃ o', (P v ∧ ∃ τ', o' = stem w κ τ' U) ∧ n = pre ++ (d, o') :: post)) : Call w f dN uN news vs (ObjR w κ U d pre post P) := by
  refine h.mono (fun _ h => h) ?_
  rintro v n ⟨o', ⟨hp, τ, rfl⟩, rfl⟩
  exact ⟨_, .mk v τ hp, fun _ h => h⟩
theorem words_S1a : True := by
  k_with_none
  k_with "eval Name" => ((k_here; k_dflt (refine' nameX_L ?zF9 ?zv9 ?_ ?za9 ?zb9; (case zF9 => k_asm); (case za9 => exact Eq.refl _); (case zb9 => exact Eq.refl (some _)); (case zv9 => exact Eq.refl (some _)); k_whole)))
  k_with "storeName" => ((k_here; k_dflt (refine' storeX_L ?zF9 ?zN9 ?_ ?za9 ?zb9; (case zF9 => k_asm); (case zN9 => k_asm); (case za9 => exact Eq.refl _); (case zb9 => exact Eq.refl (some _)); k_whole; intro h' F' N'; refine useF ?_ F'; clear F'; intro m9 F9; (try k_sweep))))
  k_with "execs cons" => ((k_here; (try dsimp only); refine tidy ?_; intro t9; (try k_fold); refine wpAny_execs_cons ?_))
  k_with "mem" => (first | ktr_member | exact List.Mem.head _ | (refine' mtail ?_; k_mem))
  k_with "all" => (first | assumption | exact List.forall_mem_nil _ | (refine' all_ne_of_lt ?zh9 ?zhd9; (case zh9 => assumption); (case zhd9 => lia)) | (refine' List.forall_mem_cons.mpr ⟨?za9, ?zb9⟩; (case za9 => first | assumption | k_ne); (case zb9 => k_all)))
  k_with "upd" => (first | with_reducible assumption | (refine' Spl.head ?za9; (case za9 => k_all)) | (refine' Spl.tail ?za9 ?zb9; (case za9 => first | assumption | k_ne); (case zb9 => k_upd)))
  trivial

theorem get_current_spec {w : World} {news : Led} {x dx : Addr} {κ τ : Keys} {T : Tool} (hx : (x, instObj 199 dx) ∈ news) (hd : (dx, stem w κ τ T) ∈ news) :
   Call w 49 2 16 news [.ref x] (fun v n => v = .str T.cur τ.a ∧ n = news) := by
  unfold Call
  w_top off
  k_fill
  intros
  rename_i hret
  refine wpAny_call ?_
  k_dflt cell_enter
  rename Fr _ _ _ _ => F8
  refine useF ?_ F8; clear F8; intro m9 F8
  k_steps
  refine ret_ hret (by k_asm) (by k_asm) ⟨rfl, rfl⟩

theorem copy_from_spec0 {w : World} {rest : Led} {x dx y dy : Addr} {κ τ κ2 τ2 : Keys} {T U : Tool} (hx : (x, instObj 199 dx) ∈ rest) (hdx : ∀ p ∈ rest, p.1 ≠ dx) (hy : (y, instObj 199 dy) ∈ rest) (hd : (dy, stem w κ2 τ2 U) ∈ rest) :
   Call w 56 2 16 ((dx, stem w κ τ T) :: rest) [.ref x, .ref y] (fun v n => ∃ o', (v = .none ∧ ∃ τ', o' = stem w κ τ' U) ∧ n = (dx, o') :: rest) := by
  unfold Call
  w_top off
  k_fill
  intros
  rename_i hret
  refine wpAny_call ?_
  k_dflt cell_enter
  rename Fr _ _ _ _ => F8
  refine useF ?_ F8; clear F8; intro m9 F8
  k_steps
  refine ret_ hret (by k_asm) (by k_asm) ⟨_, ⟨rfl, ⟨_,_,_,_,_,_⟩, rfl⟩, rfl⟩

theorem set_current_spec0 {w : World} {rest : Led} {x dx : Addr} {κ τ : Keys} {T : Tool} {cur : Str} {t : Tok} (hx : (x, instObj 199 dx) ∈ rest) (hdx : ∀ p ∈ rest, p.1 ≠ dx) (hc : cur.length < 1000) :
   Call w 42 2 16 ((dx, stem w κ τ T) :: rest) [.ref x, .str cur t] (fun v n => ∃ o', (v = .none ∧ ∃ τ', o' = stem w κ τ' (freshT cur)) ∧ n = (dx, o') :: rest) := by
  unfold Call
  w_top off
  k_fill
  intros
  rename_i hret
  refine wpAny_call ?_
  k_dflt cell_enter
  rename Fr _ _ _ _ => F8
  refine useF ?_ F8; clear F8; intro m9 F8
  k_steps
  refine ret_ hret (by k_asm) (by k_asm) ⟨_, ⟨rfl, ⟨_,_,_,_,_,_⟩, rfl⟩, rfl⟩

theorem replace_s_spec0 {w : World} {rest : Led} {x dx : Addr} {κ τ : Keys} {T : Tool} {lo hi : Int} {t1 t2 t3 : Tok} {z : Str}
    (hx : (x, instObj 199 dx) ∈ rest) (hdx : ∀ p ∈ rest, p.1 ≠ dx) (hc : T.cur.length < 1000) (hz : z.length < 1000) :
   Call w 147 2 16 ((dx, stem w κ τ T) :: rest) [.ref x, .int lo t1, .int hi t2, .str z t3] (fun v n => ∃ o', ((∃ t, v = .int (z.length - (hi - lo)) t) ∧ ∃ τ', o' = stem w κ τ' (T.repl lo hi z)) ∧ n = (dx, o') :: rest) := by
  unfold Call
  w_top off
  k_fill
  intros
  rename_i hret
  refine wpAny_call ?_
  k_dflt cell_enter
  rename Fr _ _ _ _ => F8
  refine useF ?_ F8; clear F8; intro m9 F8
  k_steps
  all_goals
    refine ret_ hret (by k_asm) (by k_asm) ⟨_, ⟨⟨_, rfl⟩, ?_⟩, rfl⟩
    refine stem_eq ?_ rfl
    simp only [Tool.repl, *, if_true, if_false]

theorem copy_from_spec {w : World} {news pre post : Led} {x dx y dy : Addr} {κ τ κ2 τ2 : Keys} {T U : Tool} (S : Spl dx (stem w κ τ T) news pre post) (hx : (x, instObj 199 dx) ∈ news) (hy : (y, instObj 199 dy) ∈ news) (hd : (dy, stem w κ2 τ2 U) ∈ news) (hne : dy ≠ dx) :
   Call w 56 2 16 news [.ref x, .ref y] (ObjR w κ U dx pre post (fun v => v = .none)) :=
  ((copy_from_spec0 (S.inst hx) S.perm.2 (S.inst hy) (S.mem hd hne)).spl S).obj
theorem set_current_spec {w : World} {news pre post : Led} {x dx : Addr} {κ τ : Keys} {T : Tool} {cur : Str} {t : Tok} (S : Spl dx (stem w κ τ T) news pre post) (hx : (x, instObj 199 dx) ∈ news) (hc : cur.length < 1000) :
   Call w 42 2 16 news [.ref x, .str cur t] (ObjR w κ (freshT cur) dx pre post (fun v => v = .none)) :=
  ((set_current_spec0 (S.inst hx) S.perm.2 hc).spl S).obj
theorem replace_s_spec {w : World} {news pre post : Led} {x dx : Addr} {κ τ : Keys} {T : Tool} {lo hi : Int} {t1 t2 t3 : Tok} {z : Str}
    (S : Spl dx (stem w κ τ T) news pre post) (hx : (x, instObj 199 dx) ∈ news) (hc : T.cur.length < 1000) (hz : z.length < 1000) :
   Call w 147 2 16 news [.ref x, .int lo t1, .int hi t2, .str z t3] (ObjR w κ (T.repl lo hi z) dx pre post (fun v => ∃ t, v = .int (z.length - (hi - lo)) t)) :=
  ((replace_s_spec0 (S.inst hx) S.perm.2 hc hz).spl S).obj

theorem set_new_spec0 {w : World} {rest : Led} {x dx : Addr} {cur : Str} {t : Tok} (hx : (x, instObj 199 dx) ∈ rest) (hdx : ∀ p ∈ rest, p.1 ≠ dx) (hc : cur.length < 1000) :
   Call w 42 2 16 ((dx, dictOf [] 0) :: rest) [.ref x, .str cur t] (fun v n => ∃ o', (v = .none ∧ ∃ κ τ', o' = stem w κ τ' (freshT cur)) ∧ n = (dx, o') :: rest) := by
  unfold Call
  w_top off
  k_fill
  intros
  rename_i hret
  refine wpAny_call ?_
  k_dflt cell_enter
  rename Fr _ _ _ _ => F8
  refine useF ?_ F8; clear F8; intro m9 F8
  k_steps
  refine ret_ hret (by k_asm) (by k_asm) ⟨_, ⟨rfl, ⟨_,_,_,_,_,_⟩, ⟨_,_,_,_,_,_⟩, rfl⟩, rfl⟩
theorem units_ok {a b c : Nat} (h : a + 64 < c) (hb : b ≤ 20) : a + b + 3 + 16 < c := by lia
inductive NewO (w : World) (U : Tool) (d : Addr) (pre post : Led) : Value → Led → Prop
  | mk (κ τ : Keys) : NewO w U d pre post .none (pre ++ (d, stem w κ τ U) :: post)
theorem set_new_spec {w : World} {news pre post : Led} {x dx : Addr} {cur : Str} {t : Tok} (S : Spl dx (dictOf [] 0) news pre post) (hx : (x, instObj 199 dx) ∈ news) (hc : cur.length < 1000) :
   Call w 42 2 16 news [.ref x, .str cur t] (NewO w (freshT cur) dx pre post) := by
  have hi : (x, instObj 199 dx) ∈ pre ++ post := S.mem_ne hx fun e => by have := congrArg Obj.cls e; cases this
  refine ((set_new_spec0 hi S.perm.2 hc).spl S).mono (fun _ h => h) ?_
  rintro v n ⟨o', ⟨rfl, κ, τ, rfl⟩, rfl⟩
  exact ⟨_, .mk κ τ, fun _ h => h⟩
theorem words_S1b : True := by
  k_with "call ref" => ((k_here; (with_reducible show wpAny _ _ (call (Value.ref 42) _) _ _ _); k_dflt (refine' set_new_spec ?zS9 ?zx9 ?zhc9 _ _ _ _ _ _ _ _ _ _ _ _ _ _ _ _ _ _ _ _ ?zB9 ?zF9 ?zX9 ?zN9 ?zT9 ?zk9 ?zd9 ?zu9 ?_; (case zB9 => k_asm); (case zF9 => k_asm); (case zX9 => k_asm); (case zN9 => k_asm); (case zT9 => k_asm); (case zk9 => first | exact rfl | assumption); (case zd9 => ktr_room); (case zu9 => ((have q9 : Code.cUnits (Code.builtin "type.__call__" ⟨[Value.ref 199], []⟩) ≤ 20 := by decide +kernel); exact units_ok (by assumption) q9)); (case zx9 => k_mem); (case zS9 => k_upd); (case zhc9 => (first | assumption | decide +kernel)); intro v9 n9 h9 tk9 hR F9 N9; obtain ⟨κ9, τ9⟩ := hR; (try simp only [List.cons_append, List.nil_append] at N9); (try dsimp only); (try k_sweep); (try k_fold))))
  trivial

inductive NewR (w : World) (news : Led) : Value → Led → Prop
  | mk (x d : Addr) (κ τ : Keys) (h : ∀ p ∈ news, p.1 ≠ d) : NewR w news (.ref x) ((x, instObj 199 d) :: (d, stem w κ τ (freshT (Str.ofString ""))) :: news)
theorem new_spec {w : World} {news : Led} : Call w 199 4 64 news [] (NewR w news) := by
  unfold Call
  w_top off
  k_fill
  intros
  rename_i hret
  k_dflt (refine' call_cls ?zk1 ?zk2 ?zk3 ?zk4 ?zk5 ?zk6 ?_; (case zk1 => k_asm); (case zk2 => k_asm); (case zk3 => k_asm); (case zk4 => k_is); (case zk5 => k_is); (case zk6 => k_is); k_whole; intro x' d' h' F' N' l1 l2; (try k_lt2 l2); (try k_sweep))
  k_dflt cell_enter
  rename Fr _ _ _ _ => F8
  refine useF ?_ F8; clear F8; intro m9 F8
  k_steps
  refine ret_ hret (by k_asm) (by k_asm) (NewR.mk _ _ _ _ (fun p hp => Nat.ne_of_lt (l1 p hp)))
theorem words_S2a : True := by
  k_with_none
  k_with "eval Name" => ((k_here; k_dflt (refine' nameX_L ?zF9 ?zv9 ?_ ?za9 ?zb9; (case zF9 => k_asm); (case za9 => exact Eq.refl _); (case zb9 => exact Eq.refl (some _)); (case zv9 => exact Eq.refl (some _)); k_whole)))
  k_with "storeName" => ((k_here; k_dflt (refine' storeX_L ?zF9 ?zN9 ?_ ?za9 ?zb9; (case zF9 => k_asm); (case zN9 => k_asm); (case za9 => exact Eq.refl _); (case zb9 => exact Eq.refl (some _)); k_whole; intro h' F' N'; refine useF ?_ F'; clear F'; intro m9 F9; (try k_sweep))))
  k_with "execs cons" => ((k_here; (try dsimp only); refine tidy ?_; intro t9; (try k_fold); refine wpAny_execs_cons ?_))
  k_with "mem" => (first | ktr_member | exact List.Mem.head _ | (refine' mtail ?_; k_mem))
  k_with "all" => (first | assumption | exact List.forall_mem_nil _ | (refine' all_ne_of_lt ?zh9 ?zhd9; (case zh9 => assumption); (case zhd9 => lia)) | (refine' List.forall_mem_cons.mpr ⟨?za9, ?zb9⟩; (case za9 => first | assumption | k_ne); (case zb9 => k_all)))
  k_with "upd" => (first | with_reducible assumption | (refine' Spl.head ?za9; (case za9 => k_all)) | (refine' Spl.tail ?za9 ?zb9; (case za9 => first | assumption | k_ne); (case zb9 => k_upd)))
  k_with "call ref" => ((k_here; (with_reducible show wpAny _ _ (call (Value.ref 147) _) _ _ _); k_dflt (refine' replace_s_spec ?zS9 ?zx9 ?zhc9 ?zhz9 _ _ _ _ _ _ _ _ _ _ _ _ _ _ _ _ _ _ _ _ ?zB9 ?zF9 ?zX9 ?zN9 ?zT9 ?zk9 ?zd9 ?zu9 ?_; (case zB9 => k_asm); (case zF9 => k_asm); (case zX9 => k_asm); (case zN9 => k_asm); (case zT9 => k_asm); (case zk9 => first | exact rfl | assumption); (case zd9 => ktr_room); (case zu9 => ktr_units); (case zx9 => k_mem); (case zS9 => k_upd); (case zhc9 => (first | assumption | (dsimp only; lia))); (case zhz9 => (first | assumption | (dsimp only; lia))); intro v9 n9 h9 tk9 hR F9 N9; obtain ⟨τ9, t9, e9⟩ := hR; subst e9; (try simp only [List.cons_append, List.nil_append] at N9); (try dsimp only); (try k_sweep); (try k_fold))))
  trivial

theorem insert_spec0 {w : World} {rest : Led} {x dx : Addr} {κ τ : Keys} {T : Tool} {lo hi : Int} {t1 t2 t3 : Tok} {z : Str}
    (hx : (x, instObj 199 dx) ∈ rest) (hdx : ∀ p ∈ rest, p.1 ≠ dx) (hc : T.cur.length < 1000) (hz : z.length < 1000) :
   Call w 168 3 32 ((dx, stem w κ τ T) :: rest) [.ref x, .int lo t1, .int hi t2, .str z t3] (fun v n => ∃ o', (v = .none ∧ ∃ τ', o' = stem w κ τ' (T.ins lo hi z)) ∧ n = (dx, o') :: rest) := by
  unfold Call
  w_top off
  k_fill
  intros
  rename_i hret
  refine wpAny_call ?_
  k_dflt cell_enter
  rename Fr _ _ _ _ => F8
  refine useF ?_ F8; clear F8; intro m9 F8
  k_steps
  all_goals
    refine ret_ hret (by k_asm) (by k_asm) ⟨_, ⟨rfl, ?_⟩, rfl⟩
    refine stem_eq ?_ rfl
    clear hret
    refine ins_eq _ _ _ _ rfl rfl rfl rfl ?_ ?_ <;> split <;> first | rfl | contradiction

theorem insert_spec {w : World} {news pre post : Led} {x dx : Addr} {κ τ : Keys} {T : Tool} {lo hi : Int} {t1 t2 t3 : Tok} {z : Str}
    (S : Spl dx (stem w κ τ T) news pre post) (hx : (x, instObj 199 dx) ∈ news) (hc : T.cur.length < 1000) (hz : z.length < 1000) :
   Call w 168 3 32 news [.ref x, .int lo t1, .int hi t2, .str z t3] (ObjR w κ (T.ins lo hi z) dx pre post (fun v => v = .none)) :=
  ((insert_spec0 (S.inst hx) S.perm.2 hc hz).spl S).obj

theorem assign_to_spec {w : World} {news : Led} {x dx : Addr} {κ τ : Keys} {T : Tool} (hx : (x, instObj 199 dx) ∈ news) (hd : (dx, stem w κ τ T) ∈ news) (hc : T.cur.length < 1000) :
   Call w 182 2 16 news [.ref x] (fun v n => (∃ t, v = .str (Txt.slice T.cur (some 0) (some T.limit)) t) ∧ n = news) := by
  unfold Call
  w_top off
  k_fill
  intros
  rename_i hret
  refine wpAny_call ?_
  k_dflt cell_enter
  rename Fr _ _ _ _ => F8
  refine useF ?_ F8; clear F8; intro m9 F8
  k_steps
  refine ret_ hret (by k_asm) (by k_asm) ⟨⟨_, rfl⟩, rfl⟩

theorem slice_to_spec {w : World} {news : Led} {x dx : Addr} {κ τ : Keys} {T : Tool} (hx : (x, instObj 199 dx) ∈ news) (hd : (dx, stem w κ τ T) ∈ news) (hc : T.cur.length < 1000)
   (h : 0 ≤ T.bra ∧ T.bra ≤ T.ket ∧ T.ket ≤ T.limit ∧ T.limit ≤ T.cur.length) :
   Call w 175 2 16 news [.ref x] (fun v n => (∃ t, v = .str (Txt.slice T.cur (some T.bra) (some T.ket)) t) ∧ n = news) := by
  unfold Call
  w_top off
  k_fill
  intros
  rename_i hret
  refine wpAny_call ?_
  k_dflt cell_enter
  rename Fr _ _ _ _ => F8
  refine useF ?_ F8; clear F8; intro m9 F8
  k_steps
  refine ret_ hret (by k_asm) (by k_asm) ⟨⟨_, rfl⟩, rfl⟩

theorem slice_from_spec0 {w : World} {rest : Led} {x dx : Addr} {κ τ : Keys} {T : Tool} {t3 : Tok} {z : Str}
    (hx : (x, instObj 199 dx) ∈ rest) (hdx : ∀ p ∈ rest, p.1 ≠ dx) (hc : T.cur.length < 1000) (hz : z.length < 1000) 
   (h : 0 ≤ T.bra ∧ T.bra ≤ T.ket ∧ T.ket ≤ T.limit ∧ T.limit ≤ T.cur.length) :
   Call w 154 3 32 ((dx, stem w κ τ T) :: rest) [.ref x, .str z t3] (fun v n => ∃ o', (v = .none ∧ ∃ τ', o' = stem w κ τ' (T.from z)) ∧ n = (dx, o') :: rest) := by
  unfold Call
  w_top off
  k_fill
  intros
  rename_i hret
  refine wpAny_call ?_
  k_dflt cell_enter
  rename Fr _ _ _ _ => F8
  refine useF ?_ F8; clear F8; intro m9 F8
  k_steps
  refine ret_ hret (by k_asm) (by k_asm) ⟨_, ⟨rfl, stem_eq rfl rfl⟩, rfl⟩

theorem slice_from_spec {w : World} {news pre post : Led} {x dx : Addr} {κ τ : Keys} {T : Tool} {t3 : Tok} {z : Str}
    (S : Spl dx (stem w κ τ T) news pre post) (hx : (x, instObj 199 dx) ∈ news) (hc : T.cur.length < 1000) (hz : z.length < 1000) 
   (h : 0 ≤ T.bra ∧ T.bra ≤ T.ket ∧ T.ket ≤ T.limit ∧ T.limit ≤ T.cur.length) :
   Call w 154 3 32 news [.ref x, .str z t3] (ObjR w κ (T.from z) dx pre post (fun v => v = .none)) :=
  ((slice_from_spec0 (S.inst hx) S.perm.2 hc hz h).spl S).obj
theorem words_S2b : True := by
  k_with "call ref" => ((k_here; (with_reducible show wpAny _ _ (call (Value.ref 154) _) _ _ _); k_dflt (refine' slice_from_spec ?zS9 ?zx9 ?zhc9 ?zhz9 ?zhh9 _ _ _ _ _ _ _ _ _ _ _ _ _ _ _ _ _ _ _ _ ?zB9 ?zF9 ?zX9 ?zN9 ?zT9 ?zk9 ?zd9 ?zu9 ?_; (case zB9 => k_asm); (case zF9 => k_asm); (case zX9 => k_asm); (case zN9 => k_asm); (case zT9 => k_asm); (case zk9 => first | exact rfl | assumption); (case zd9 => ktr_room); (case zu9 => ktr_units); (case zx9 => k_mem); (case zS9 => k_upd); (case zhc9 => (first | assumption | (dsimp only; lia))); (case zhz9 => (first | assumption | (dsimp only; lia) | decide +kernel)); (case zhh9 => (first | assumption | (dsimp only; lia))); intro v9 n9 h9 tk9 hR F9 N9; obtain ⟨τ9, e9⟩ := hR; subst e9; (try simp only [List.cons_append, List.nil_append] at N9); (try dsimp only); (try k_sweep); (try k_fold))))
  trivial

theorem slice_del_spec0 {w : World} {rest : Led} {x dx : Addr} {κ τ : Keys} {T : Tool}
    (hx : (x, instObj 199 dx) ∈ rest) (hdx : ∀ p ∈ rest, p.1 ≠ dx) (hc : T.cur.length < 1000) 
   (h : 0 ≤ T.bra ∧ T.bra ≤ T.ket ∧ T.ket ≤ T.limit ∧ T.limit ≤ T.cur.length) :
   Call w 161 4 48 ((dx, stem w κ τ T) :: rest) [.ref x] (fun v n => ∃ o', (v = .none ∧ ∃ τ', o' = stem w κ τ' (T.from (Str.ofString ""))) ∧ n = (dx, o') :: rest) := by
  unfold Call
  w_top off
  k_fill
  intros
  rename_i hret
  refine wpAny_call ?_
  k_dflt cell_enter
  rename Fr _ _ _ _ => F8
  refine useF ?_ F8; clear F8; intro m9 F8
  k_steps
  refine ret_ hret (by k_asm) (by k_asm) ⟨_, ⟨rfl, ⟨_, rfl⟩⟩, rfl⟩
theorem slice_del_spec {w : World} {news pre post : Led} {x dx : Addr} {κ τ : Keys} {T : Tool}
    (S : Spl dx (stem w κ τ T) news pre post) (hx : (x, instObj 199 dx) ∈ news) (hc : T.cur.length < 1000) 
   (h : 0 ≤ T.bra ∧ T.bra ≤ T.ket ∧ T.ket ≤ T.limit ∧ T.limit ≤ T.cur.length) :
   Call w 161 4 48 news [.ref x] (ObjR w κ (T.from (Str.ofString "")) dx pre post (fun v => v = .none)) :=
  ((slice_del_spec0 (S.inst hx) S.perm.2 hc h).spl S).obj

theorem slice_to_bad {w : World} {news : Led} {x dx : Addr} {κ τ : Keys} {T : Tool} (hx : (x, instObj 199 dx) ∈ news) (hd : (dx, stem w κ τ T) ∈ news) (hc : T.cur.length < 1000)
   (h : ¬ (0 ≤ T.bra ∧ T.bra ≤ T.ket ∧ T.ket ≤ T.limit ∧ T.limit ≤ T.cur.length)) :
   CallE w 175 2 16 news [.ref x] := by
  unfold CallE
  w_top off
  k_fill
  intros
  rename_i hret
  have hKD := fun g => ktsDicts_nil (g := g)
  replace hKD := hKD default
  refine wpAny_call ?_
  k_dflt cell_enter
  rename Fr _ _ _ _ => F8
  refine useF ?_ F8; clear F8; intro m9 F8
  k_steps
  all_goals exact hret _ _ _ _ (by assumption) (by assumption) (by assumption)

theorem slice_from_bad {w : World} {news : Led} {x dx : Addr} {κ τ : Keys} {T : Tool} {z : Str} {t3 : Tok} (hx : (x, instObj 199 dx) ∈ news) (hd : (dx, stem w κ τ T) ∈ news) (hc : T.cur.length < 1000)
   (h : ¬ (0 ≤ T.bra ∧ T.bra ≤ T.ket ∧ T.ket ≤ T.limit ∧ T.limit ≤ T.cur.length)) :
   CallE w 154 2 16 news [.ref x, .str z t3] := by
  unfold CallE
  w_top off
  k_fill
  intros
  rename_i hret
  have hKD := fun g => ktsDicts_nil (g := g)
  replace hKD := hKD default
  refine wpAny_call ?_
  k_dflt cell_enter
  rename Fr _ _ _ _ => F8
  refine useF ?_ F8; clear F8; intro m9 F8
  k_steps
  all_goals exact hret _ _ _ _ (by assumption) (by assumption) (by assumption)
theorem words_S2c : True := by
  k_with "call ref" => ((k_here; (with_reducible show wpAny _ _ (call (Value.ref 154) _) _ _ _); k_dflt (refine' slice_from_bad ?zx9 ?zy9 ?zhc9 ?zhh9 _ _ _ _ _ _ _ _ _ _ _ _ _ _ _ _ _ _ _ _ ?zB9 ?zF9 ?zX9 ?zN9 ?zT9 ?zk9 ?zd9 ?zu9 ?_; (case zB9 => k_asm); (case zF9 => k_asm); (case zX9 => k_asm); (case zN9 => k_asm); (case zT9 => k_asm); (case zk9 => first | exact rfl | assumption); (case zd9 => ktr_room); (case zu9 => ktr_units); (case zx9 => k_mem); (case zy9 => k_mem); (case zhc9 => (first | assumption | (dsimp only; lia))); (case zhh9 => (first | assumption | (dsimp only; lia))); (intro e9 G9 h9 tk9 R9 F9 U9; (try dsimp only)))))
  trivial

theorem slice_del_bad {w : World} {news : Led} {x dx : Addr} {κ τ : Keys} {T : Tool} (hx : (x, instObj 199 dx) ∈ news) (hd : (dx, stem w κ τ T) ∈ news) (hc : T.cur.length < 1000)
   (h : ¬ (0 ≤ T.bra ∧ T.bra ≤ T.ket ∧ T.ket ≤ T.limit ∧ T.limit ≤ T.cur.length)) :
   CallE w 161 3 32 news [.ref x] := by
  unfold CallE
  w_top off
  k_fill
  intros
  rename_i hret
  have hKD := fun g => ktsDicts_nil (g := g)
  replace hKD := hKD default
  refine wpAny_call ?_
  k_dflt cell_enter
  rename Fr _ _ _ _ => F8
  refine useF ?_ F8; clear F8; intro m9 F8
  k_steps
  all_goals exact hret _ _ _ _ (by assumption) (by assumption) (by assumption)
theorem words_S3a : True := by
  k_with_none
  k_with "eval Name" => ((k_here; k_dflt (refine' nameX_L ?zF9 ?zv9 ?_ ?za9 ?zb9; (case zF9 => k_asm); (case za9 => exact Eq.refl _); (case zb9 => exact Eq.refl (some _)); (case zv9 => exact Eq.refl (some _)); k_whole)))
  k_with "storeName" => ((k_here; k_dflt (refine' storeX_L ?zF9 ?zN9 ?_ ?za9 ?zb9; (case zF9 => k_asm); (case zN9 => k_asm); (case za9 => exact Eq.refl _); (case zb9 => exact Eq.refl (some _)); k_whole; intro h' F' N'; refine useF ?_ F'; clear F'; intro m9 F9; (try k_sweep))))
  k_with "execs cons" => ((k_here; (try dsimp only); refine tidy ?_; intro t9; (try k_fold); refine wpAny_execs_cons ?_))
  k_with "mem" => (first | ktr_member | exact List.Mem.head _ | (refine' mtail ?_; k_mem))
  k_with "all" => (first | assumption | exact List.forall_mem_nil _ | (refine' all_ne_of_lt ?zh9 ?zhd9; (case zh9 => assumption); (case zhd9 => lia)) | (refine' List.forall_mem_cons.mpr ⟨?za9, ?zb9⟩; (case za9 => first | assumption | k_ne); (case zb9 => k_all)))
  k_with "upd" => (first | with_reducible assumption | (refine' Spl.head ?za9; (case za9 => k_all)) | (refine' Spl.tail ?za9 ?zb9; (case za9 => first | assumption | k_ne); (case zb9 => k_upd)))
  k_with "enter" => ((refine' code_defC ?zk19 ?zk29 ?zk39 ?zk49 ?zk59 ?zkA9 ?zkF9 ?zkK9 ?zk69 ?zk79 ?zk89 ?zk99 ?zkB9 ?zkD9 ?_ ?zc29 ?zc39 ?zc49; (case zkA9 => exact rfl); (case zkF9 => exact rfl); (case zkK9 => assumption); (case zk19 => k_asm); (case zk29 => k_asm); (case zk39 => k_asm); (case zk49 => k_asm); (case zk59 => k_asm); (case zk69 => k_is); (case zk79 => k_is); (case zk89 => ktr_room); (case zk99 => first | exact BindsTo.of_eq rfl | exact binds_K (by k_in) rfl (by k_is) rfl rfl rfl); (case zkB9 => exact rfl); (case zkD9 => decide +kernel); (case zc29 => exact rfl); (case zc39 => exact rfl); (case zc49 => exact rfl); k_whole; intro g' L' h' tk' cells' FG' F' N' Y' B' X' T' l1; (try k_lt l1); k_cells Y'; (try simp only [List.cons_append, List.nil_append] at N'); (try dsimp only); (try k_lift B'); (try k_fold)))
  k_with "CompSrc" => ((k_here; (try k_fmods); k_dflt (refine LCg.CompSrc.range (by rfl) (by k_asm) (by k_asm) (by assumption) (by first | decide | exact small_one (by l_bnd) (by l_bnd) (by l_bnd) (by l_bnd)) (by first | exact rangeSize_nat _ _ | rfl) (by first | exact Nat.le_of_ble_eq_true rfl | (rw [PySem.sizeLine_eq]; lia)) ?_; intro g'; (refine' kct_range _ (fun k' t' I' oI' C' oC' D' m' ys' h' tk' E' hlo' hhi' hC' hx' F' N' off' ne' => ?_) ?_); (all_goals (try (simp only [LCg.Off3, and_true] at off'))); (all_goals (try ((show KPfMark → _); intro hMark'))); kcf_last)))
  k_with "CompEnd" => ((apply LCg.CompEnd.intro (by assumption) (by assumption); rotate_left 3; (refine kct_el ?zkce9 (by with_unfolding_all rfl) (by with_unfolding_all rfl)); (case zkce9 => kpf_eq); kcf_all; (first | assumption | (simp only [LCg.Off3, and_true]; done) | (simp only [LCg.Off3, and_true]; assumption)); (first | lcg_src | assumption)))
  trivial

theorem text_spec {w : World} {news : Led} {k : Int} {t : Tok} :
   Call w 208 2 16 news [.int k t] (fun v n => ∃ z t', v = .str z t' ∧ z.length ≤ 4 ∧ n = news) := by
  unfold Call
  w_top off
  k_fill
  intros
  rename_i hret
  refine wpAny_call ?_
  k_dflt cell_enter
  rename Fr _ _ _ _ => F8
  refine useF ?_ F8; clear F8; intro m9 F8
  k_steps
  have h5 : 0 ≤ k.fmod 5 ∧ k.fmod 5 < 5 := ⟨by assumption, by assumption⟩
  refine ret_ hret (by k_asm) (cb_drop (by assumption) (by kcj_all)) ⟨_, _, rfl, ?_, rfl⟩
  refine Nat.le_trans (join_le _ ?_) ?_
  · intro a ha
    obtain ⟨b, _, rfl⟩ := List.mem_map.mp ha
    split
    · rename_i h; exact h.2
    · exact Nat.zero_le _
  · simp only [List.length_map, rangeKs_length]
    lia

theorem words_S3b : True := by
  k_with "subscriptTail Name Slice ref ref" => ((k_here; (with_reducible show wpAny _ _ (subscriptTail _ (PySem.Expr.Slice _ _ none _) (Value.ref _) (Value.ref _)) _ _ _); k_dflt (refine' sl_slice ?zF9 ?zN9 ?zl9 ?zp9 ?zq9 ?zi9 ?zz9 ?_ ?zs9 ?zt9; (case zF9 => k_asm); (case zN9 => k_asm); (case zl9 => k_mem); (case zp9 => kmk_part); (case zq9 => kmk_part); (case zi9 => with_reducible assumption); (case zz9 => first | assumption | lia | ((try simp only [List.length_append, List.length_cons, List.length_nil, signs_length]); lia) | ((try simp only [List.length_append, List.length_cons, List.length_nil, signs_length] at *); lia)); (case zs9 => with_unfolding_all rfl); (case zt9 => kmk_pure)); intro D' ws' h' F' N' l1 hI' hP'; (try k_lt l1); (try k_sweep); (try dsimp only)))
  k_with "binaryOp Add ref ref" => ((k_here; (with_reducible show wpAny _ _ (binaryOp _ (Value.ref _) (Value.ref _)) _ _ _); k_dflt (refine' sl_add ?zF9 ?zN9 ?zl9 ?zb9 ?zi9 ?zj9 ?zz9 ?_; (case zF9 => k_asm); (case zN9 => k_asm); (case zl9 => k_mem); (case zb9 => k_mem); (case zi9 => with_reducible assumption); (case zj9 => with_reducible assumption); (case zz9 => first | assumption | lia | ((try simp only [List.length_append, List.length_cons, List.length_nil, signs_length]); lia) | ((try simp only [List.length_append, List.length_cons, List.length_nil, signs_length] at *); lia))); intro D' ws' h' F' N' l1 hI'; (try k_lt l1); (try k_sweep); (try dsimp only)))
  k_with "call builtin:len" => ((k_here; (with_reducible show wpAny _ _ (call (Value.builtin "len") [Value.ref _]) _ _ _); k_dflt (refine' sl_len ?zN9 ?zl9 ?zi9 ?zz9 ?_; (case zN9 => k_asm); (case zl9 => k_mem); (case zi9 => first | with_reducible assumption | exact .nil); (case zz9 => first | assumption | lia | ((try simp only [List.length_append, List.length_cons, List.length_nil, signs_length]); lia) | ((try simp only [List.length_append, List.length_cons, List.length_nil, signs_length] at *); lia)))))
  k_with "call builtin:str.join" => ((k_here; (with_reducible show wpAny _ _ (call (Value.builtin _) [Value.str _ _, Value.ref _]) _ _ _); k_dflt (refine' sl_join ?zN9 ?zl9 ?zi9 ?zo9 ?zz9 ?_; (case zN9 => k_asm); (case zl9 => k_mem); (case zi9 => with_reducible assumption); (case zo9 => first | assumption | (refine Ones.app ?_ ?_ <;> assumption) | (refine Ones.pick (Ones.app ?_ ?_) _ _ <;> assumption)); (case zz9 => first | assumption | lia | ((try simp only [List.length_append, List.length_cons, List.length_nil, signs_length]); lia) | ((try simp only [List.length_append, List.length_cons, List.length_nil, signs_length] at *); lia))); intro _ _ _))
  trivial

theorem fresh_spec0 {w : World} {news : Led} {z : Str} {t : Tok} (hz : z.length < 1000) :
   Call w 213 2 16 news [.str z t] (fun v n => ∃ a l r vr kr t1 t2 t3 t4 k, v = .ref a ∧ n = (a, tupO [.ref l, .ref r, .int 0 t1, .int 0 t2, .int 0 t3, .int z.length t4] k) :: (r, listOf (List.toArray vr) kr) :: (l, listOf (List.toArray []) 0) :: news ∧ StrsAre vr (signs z)) := by
  unfold Call
  w_top off
  k_fill
  intros
  rename_i hret
  refine wpAny_call ?_
  k_dflt cell_enter
  rename Fr _ _ _ _ => F8
  refine useF ?_ F8; clear F8; intro m9 F8
  k_steps
  refine ret_ hret (by k_asm) (by k_asm) ⟨_, _, _, _, _, _, _, _, _, _, rfl, rfl, strs_of_comp (by assumption)⟩

inductive FreshR (z : Str) (news : Led) : Value → Led → Prop
  | mk (a l r : Addr) (vr : List Value) (kr : Nat) (t1 t2 t3 t4 : Tok) (k : Nat) (i : StrsAre vr (signs z)) :
    FreshR z news (.ref a) ((a, tupO [.ref l, .ref r, .int 0 t1, .int 0 t2, .int 0 t3, .int z.length t4] k) :: (r, listOf (List.toArray vr) kr) :: (l, listOf (List.toArray []) 0) :: news)
theorem fresh_spec {w : World} {news : Led} {z : Str} {t : Tok} (hz : z.length < 1000) : Call w 213 2 16 news [.str z t] (FreshR z news) := by
  refine (fresh_spec0 hz).mono (fun _ h => h) ?_
  rintro v n ⟨a, l, r, vr, kr, t1, t2, t3, t4, k, rfl, rfl, i⟩
  exact ⟨_, .mk a l r vr kr t1 t2 t3 t4 k i, fun _ h => h⟩

theorem size_spec {w : World} {news : Led} {S : St} {a l r : Addr} {vl vr : List Value} {x1 x2 x3 x4 : Value} {k kl kr : Nat} (ha : (a, tupO [.ref l, .ref r, x1, x2, x3, x4] k) ∈ news) (hl : (l, listOf vl.toArray kl) ∈ news) (hr : (r, listOf vr.toArray kr) ∈ news)
   (il : StrsAre vl S.l) (ir : StrsAre vr S.r) (h1 : S.l.length < 1000) (h2 : S.r.length < 1000) :
   Call w 220 2 16 news [.ref a] (fun v n => (∃ t, v = .int (S.l.length + S.r.length) t) ∧ n = news) := by
  unfold Call
  w_top off
  k_fill
  intros
  rename_i hret
  refine wpAny_call ?_
  k_dflt cell_enter
  rename Fr _ _ _ _ => F8
  refine useF ?_ F8; clear F8; intro m9 F8
  k_steps
  refine ret_ hret (by k_asm) (by k_asm) ⟨⟨_, rfl⟩, rfl⟩

inductive CutR (S : St) (lo hi : Int) (zs : List Str) (news : Led) : Value → Led → Prop
  | mk (a l r : Addr) (vl vr : List Value) (kl kr : Nat) (t1 t2 t3 t4 : Tok) (k : Nat) (S' : St) (hS : S' = S.cut lo hi zs) (hz : S'.l.length + S'.r.length ≤ 2 * (S.l.length + S.r.length) + zs.length) (il : StrsAre vl S'.l) (ir : StrsAre vr S'.r) :
    CutR S lo hi zs news (.ref a) ((a, tupO [.ref l, .ref r, .int S'.behind t1, .int S'.back t2, .int S'.bra t3, .int S'.ket t4] k) :: (l, listOf (List.toArray vl) kl) :: (r, listOf (List.toArray vr) kr) :: news)
theorem CutR.of {S : St} {lo hi : Int} {zs : List Str} {news : Led} {a l r : Addr} {vl vr : List Value} {kl kr : Nat} {t1 t2 t3 t4 : Tok} {k : Nat} {b1 b2 b3 b4 : Int} {L' R' : List Str} (il : StrsAre vl L') (ir : StrsAre vr R') (e : (⟨L', R', b1, b2, b3, b4⟩ : St) = S.cut lo hi zs) :
    CutR S lo hi zs news (.ref a) ((a, tupO [.ref l, .ref r, .int b1 t1, .int b2 t2, .int b3 t3, .int b4 t4] k) :: (l, listOf (List.toArray vl) kl) :: (r, listOf (List.toArray vr) kr) :: news) :=
  .mk a l r vl vr kl kr t1 t2 t3 t4 k ⟨L', R', b1, b2, b3, b4⟩ e (by rw [e]; exact cut_le _ _ _ _) il ir
theorem cut_spec {w : World} {news : Led} {S : St} {a l r g : Addr} {vl vr vg : List Value} {zs : List Str} {t1 t2 t3 t4 u1 u2 : Tok} {lo hi : Int} {k kl kr kg : Nat} (ha : (a, tupO [.ref l, .ref r, .int S.behind t1, .int S.back t2, .int S.bra t3, .int S.ket t4] k) ∈ news) (hl : (l, listOf vl.toArray kl) ∈ news) (hr : (r, listOf vr.toArray kr) ∈ news)
   (hg : (g, listOf vg.toArray kg) ∈ news) (il : StrsAre vl S.l) (ir : StrsAre vr S.r) (ig : StrsAre vg zs) (h1 : S.l.length < 1000) (h2 : S.r.length < 1000) (h3 : zs.length < 1000) :
   Call w 234 2 16 news [.ref a, .int lo u1, .int hi u2, .ref g] (CutR S lo hi zs news) := by
  unfold Call
  w_top off
  k_fill
  intros
  rename_i hret
  refine wpAny_call ?_
  k_dflt cell_enter
  rename Fr _ _ _ _ => F8
  refine useF ?_ F8; clear F8; intro m9 F8
  k_steps
  all_goals
    refine ret_ hret (by k_asm) (cb_drop (by assumption) (List.forall_mem_cons.mpr ⟨by k_mem, List.forall_mem_cons.mpr ⟨by k_mem, List.forall_mem_cons.mpr ⟨by k_mem, by (intro p hp; repeat' (first | exact hp | refine mtail ?_))⟩⟩⟩))
      (CutR.of (by assumption) (by assumption) ?_)
  · exact (if_pos (by assumption)).symm
  · exact ((if_neg (by assumption)).trans (if_pos (by assumption))).symm
  · exact ((if_neg (by assumption)).trans (if_neg (by assumption))).symm

theorem words_S3c : True := by
  k_with "ite" => ((k_here; first | (refine ite_neg ?zc9 ?_; (case zc9 => (simp; done))) | (refine ite_pos ?zc9 ?_; (case zc9 => (simp; done)))))
  k_with "call ref" => ((k_here; (with_reducible show wpAny _ _ (call (Value.ref 49) _) _ _ _); k_dflt (refine' get_current_spec ?zx9 ?zy9 _ _ _ _ _ _ _ _ _ _ _ _ _ _ _ _ _ _ _ _ ?zB9 ?zF9 ?zX9 ?zN9 ?zT9 ?zk9 ?zd9 ?zu9 ?_; (case zB9 => k_asm); (case zF9 => k_asm); (case zX9 => k_asm); (case zN9 => k_asm); (case zT9 => k_asm); (case zk9 => first | exact rfl | assumption); (case zd9 => ktr_room); (case zu9 => ktr_units); (case zx9 => k_mem); (case zy9 => k_mem); intro v9 n9 h9 tk9 hR F9 N9; obtain ⟨e9, e9'⟩ := hR; subst e9; subst e9'; (try simp only [List.cons_append, List.nil_append] at N9); (try dsimp only); (try k_sweep); (try k_fold))))
  trivial

theorem same_spec {w : World} {news : Led} {S : St} {κ τ : Keys} {x dx a l r : Addr} {vl vr : List Value} {t1 t2 t3 t4 : Tok} {k kl kr : Nat} (hx : (x, instObj 199 dx) ∈ news) (hd : (dx, stem w κ τ (toolOf S)) ∈ news) (ha : (a, tupO [.ref l, .ref r, .int S.behind t1, .int S.back t2, .int S.bra t3, .int S.ket t4] k) ∈ news) (hl : (l, listOf vl.toArray kl) ∈ news) (hr : (r, listOf vr.toArray kr) ∈ news)
   (il : StrsAre vl S.l) (ir : StrsAre vr S.r) (ol : Ones S.l) (or : Ones S.r) (h1 : S.l.length < 1000) (h2 : S.r.length < 1000) :
   Call w 227 3 32 news [.ref x, .ref a] (fun v n => v = .bool true ∧ n = news) := by
  unfold Call
  w_top off
  k_fill
  intros
  rename_i hret
  refine wpAny_call ?_
  k_dflt cell_enter
  rename Fr _ _ _ _ => F8
  refine useF ?_ F8; clear F8; intro m9 F8
  k_steps
  refine ret_ hret (by k_asm) (cb_drop (by assumption) (by kcj_all)) ⟨by simp, rfl⟩
theorem words_S4a : True := by
  k_with_none
  k_with "eval Name" => ((k_here; k_dflt (refine' nameX_L ?zF9 ?zv9 ?_ ?za9 ?zb9; (case zF9 => k_asm); (case za9 => exact Eq.refl _); (case zb9 => exact Eq.refl (some _)); (case zv9 => exact Eq.refl (some _)); k_whole)))
  k_with "storeName" => ((k_here; k_dflt (refine' storeX_L ?zF9 ?zN9 ?_ ?za9 ?zb9; (case zF9 => k_asm); (case zN9 => k_asm); (case za9 => exact Eq.refl _); (case zb9 => exact Eq.refl (some _)); k_whole; intro h' F' N'; refine useF ?_ F'; clear F'; intro m9 F9; (try k_sweep))))
  k_with "execs cons" => ((k_here; (try dsimp only); refine tidy ?_; intro t9; (try k_fold); refine wpAny_execs_cons ?_))
  k_with "mem" => (first | ktr_member | exact List.Mem.head _ | (refine' mtail ?_; k_mem))
  k_with "all" => (first | assumption | exact List.forall_mem_nil _ | (refine' all_ne_of_lt ?zh9 ?zhd9; (case zh9 => assumption); (case zhd9 => lia)) | (refine' List.forall_mem_cons.mpr ⟨?za9, ?zb9⟩; (case za9 => first | assumption | k_ne); (case zb9 => k_all)))
  k_with "upd" => (first | with_reducible assumption | (refine' Spl.head ?za9; (case za9 => k_all)) | (refine' Spl.tail ?za9 ?zb9; (case za9 => first | assumption | k_ne); (case zb9 => k_upd)))
  k_with "enter" => ((refine' code_defS0 ?zk19 ?zk29 ?zk39 ?zk49 ?zk59 ?zkA9 ?zk69 ?zk79 ?zk89 ?zk99 ?zkB9 ?_ ?zcK9 ?zc29 ?zc39 ?zc49 ?zc59; (case zkA9 => exact rfl); (case zk29 => k_asm); (case zk19 => k_asm); (case zk39 => k_asm); (case zk49 => k_asm); (case zk59 => k_asm); (case zk69 => k_is); (case zk79 => k_is); (case zk89 => ktr_room); (case zk99 => exact BindsTo.of_eq rfl); (case zkB9 => exact locs rfl); (case zcK9 => assumption); (case zc29 => exact rfl); (case zc39 => exact rfl); (case zc49 => exact rfl); (case zc59 => decide); k_whole; intro g' L' h' FG' F' N' B' X' T' D'; (try dsimp only); (try k_fold)))
  k_with "call ref" => ((k_here; (with_reducible show wpAny _ _ (call (Value.ref 154) _) _ _ _); k_dflt (refine' slice_from_spec ?zS9 ?zx9 ?zhc9 ?zhz9 ?zhh9 _ _ _ _ _ _ _ _ _ _ _ _ _ _ _ _ _ _ _ _ ?zB9 ?zF9 ?zX9 ?zN9 ?zT9 ?zk9 ?zd9 ?zu9 ?_; (case zB9 => k_asm); (case zF9 => k_asm); (case zX9 => k_asm); (case zN9 => k_asm); (case zT9 => k_asm); (case zk9 => first | exact rfl | assumption); (case zd9 => ktr_room); (case zu9 => ktr_units); (case zx9 => k_mem); (case zS9 => k_upd); (case zhc9 => (first | assumption | (dsimp only; lia))); (case zhz9 => (first | assumption | (dsimp only; lia))); (case zhh9 => assumption); intro v9 n9 h9 tk9 hR F9 N9; obtain ⟨τ9, e9⟩ := hR; subst e9; (try simp only [List.cons_append, List.nil_append] at N9); (try dsimp only); (try k_sweep); (try k_fold))))
  k_with "call ref" => ((k_here; (with_reducible show wpAny _ _ (call (Value.ref 161) _) _ _ _); k_dflt (refine' slice_del_spec ?zS9 ?zx9 ?zhc9 ?zhh9 _ _ _ _ _ _ _ _ _ _ _ _ _ _ _ _ _ _ _ _ ?zB9 ?zF9 ?zX9 ?zN9 ?zT9 ?zk9 ?zd9 ?zu9 ?_; (case zB9 => k_asm); (case zF9 => k_asm); (case zX9 => k_asm); (case zN9 => k_asm); (case zT9 => k_asm); (case zk9 => first | exact rfl | assumption); (case zd9 => ktr_room); (case zu9 => ktr_units); (case zx9 => k_mem); (case zS9 => k_upd); (case zhc9 => (first | assumption | (dsimp only; lia))); (case zhh9 => assumption); intro v9 n9 h9 tk9 hR F9 N9; obtain ⟨τ9, e9⟩ := hR; subst e9; (try simp only [List.cons_append, List.nil_append] at N9); (try dsimp only); (try k_sweep); (try k_fold))))
  k_with "call ref" => ((k_here; (with_reducible show wpAny _ _ (call (Value.ref 175) _) _ _ _); k_dflt (refine' slice_to_spec ?zx9 ?zy9 ?zhc9 ?zhh9 _ _ _ _ _ _ _ _ _ _ _ _ _ _ _ _ _ _ _ _ ?zB9 ?zF9 ?zX9 ?zN9 ?zT9 ?zk9 ?zd9 ?zu9 ?_; (case zB9 => k_asm); (case zF9 => k_asm); (case zX9 => k_asm); (case zN9 => k_asm); (case zT9 => k_asm); (case zk9 => first | exact rfl | assumption); (case zd9 => ktr_room); (case zu9 => ktr_units); (case zx9 => k_mem); (case zy9 => k_mem); (case zhc9 => (first | assumption | (dsimp only; lia))); (case zhh9 => assumption); intro v9 n9 h9 tk9 hR F9 N9; obtain ⟨⟨t9, e9⟩, e9'⟩ := hR; subst e9; subst e9'; (try simp only [List.cons_append, List.nil_append] at N9); (try dsimp only); (try k_sweep); (try k_fold))))
  k_with "call ref" => ((k_here; (with_reducible show wpAny _ _ (call (Value.ref 154) _) _ _ _); k_dflt (refine' slice_from_bad ?zx9 ?zy9 ?zhc9 ?zhh9 _ _ _ _ _ _ _ _ _ _ _ _ _ _ _ _ _ _ _ _ ?zB9 ?zF9 ?zX9 ?zN9 ?zT9 ?zk9 ?zd9 ?zu9 ?_; (case zB9 => k_asm); (case zF9 => k_asm); (case zX9 => k_asm); (case zN9 => k_asm); (case zT9 => k_asm); (case zk9 => first | exact rfl | assumption); (case zd9 => ktr_room); (case zu9 => ktr_units); (case zx9 => k_mem); (case zy9 => k_mem); (case zhc9 => (first | assumption | (dsimp only; lia))); (case zhh9 => assumption); (intro e9 G9 h9 tk9 R9 F9 U9; (try dsimp only)))))
  k_with "call ref" => ((k_here; (with_reducible show wpAny _ _ (call (Value.ref 161) _) _ _ _); k_dflt (refine' slice_del_bad ?zx9 ?zy9 ?zhc9 ?zhh9 _ _ _ _ _ _ _ _ _ _ _ _ _ _ _ _ _ _ _ _ ?zB9 ?zF9 ?zX9 ?zN9 ?zT9 ?zk9 ?zd9 ?zu9 ?_; (case zB9 => k_asm); (case zF9 => k_asm); (case zX9 => k_asm); (case zN9 => k_asm); (case zT9 => k_asm); (case zk9 => first | exact rfl | assumption); (case zd9 => ktr_room); (case zu9 => ktr_units); (case zx9 => k_mem); (case zy9 => k_mem); (case zhc9 => (first | assumption | (dsimp only; lia))); (case zhh9 => assumption); (intro e9 G9 h9 tk9 R9 F9 U9; (try dsimp only)))))
  k_with "call ref" => ((k_here; (with_reducible show wpAny _ _ (call (Value.ref 175) _) _ _ _); k_dflt (refine' slice_to_bad ?zx9 ?zy9 ?zhc9 ?zhh9 _ _ _ _ _ _ _ _ _ _ _ _ _ _ _ _ _ _ _ _ ?zB9 ?zF9 ?zX9 ?zN9 ?zT9 ?zk9 ?zd9 ?zu9 ?_; (case zB9 => k_asm); (case zF9 => k_asm); (case zX9 => k_asm); (case zN9 => k_asm); (case zT9 => k_asm); (case zk9 => first | exact rfl | assumption); (case zd9 => ktr_room); (case zu9 => ktr_units); (case zx9 => k_mem); (case zy9 => k_mem); (case zhc9 => (first | assumption | (dsimp only; lia))); (case zhh9 => assumption); (intro e9 G9 h9 tk9 R9 F9 U9; (try dsimp only)))))
  trivial

theorem CallS.mono {w : World} {f : Addr} {dN uN : Nat} {n1 n2 : Led} {vs : List Value} {R R' : Value → Led → Prop} (h : CallS w f dN uN n1 vs R) (hs : ∀ p ∈ n1, p ∈ n2)
    (hR : ∀ v n, R v n → ∃ n', R' v n' ∧ ∀ p ∈ n', p ∈ n) : CallS w f dN uN n2 vs R' := by
  intro mean mg mb dp un gd cn cs a ccd A₀ base h₀ L m s Q E hB hF hX hN hT hX' hT' hk hd hu hret
  refine h mean mg mb dp un gd cn cs a ccd A₀ base h₀ L m s Q E hB hF hX (fun p hp => hN p (hs p hp)) hT hX' hT' hk hd hu (fun v news' h' tk' hr F N => ?_)
  obtain ⟨n', r', hsub⟩ := hR v news' hr
  exact hret v n' h' tk' r' F (fun p hp => N p (hsub p hp))
theorem CallS.spl {w : World} {f : Addr} {dN uN : Nat} {d : Addr} {o : Obj} {news pre post : Led} {vs : List Value} {b : Value} {P : Value → Obj → Prop}
    (h : CallS w f dN uN ((d, o) :: (pre ++ post)) vs (fun v n => ∃ a k y o', v = .ref a ∧ P y o' ∧ n = (a, tupO [b, y] k) :: (d, o') :: (pre ++ post))) (S : Spl d o news pre post) :
    CallS w f dN uN news vs (fun v n => ∃ a k y o', v = .ref a ∧ P y o' ∧ n = (a, tupO [b, y] k) :: (pre ++ (d, o') :: post)) := by
  refine h.mono S.perm.1 ?_
  rintro v n ⟨a, k, y, o', hv, hp, rfl⟩
  refine ⟨_, ⟨a, k, y, o', hv, hp, rfl⟩, fun p hp => ?_⟩
  simp only [List.mem_append, List.mem_cons] at hp ⊢
  rcases hp with h | h | h | h
  · exact .inl h
  · exact .inr (.inr (.inl h))
  · exact .inr (.inl h)
  · exact .inr (.inr (.inr h))

inductive LsR (w : World) (κ : Keys) (U : Tool) (d : Addr) (pre post : Led) (b : Bool) (P : Value → Prop) : Value → Led → Prop
  | mk (a : Addr) (k : Nat) (y : Value) (τ : Keys) (h : P y) : LsR w κ U d pre post b P (.ref a) ((a, tupO [.bool b, y] k) :: (pre ++ (d, stem w κ τ U) :: post))
theorem CallS.obj {w : World} {f : Addr} {dN uN : Nat} {news pre post : Led} {vs : List Value} {κ : Keys} {U : Tool} {d : Addr} {b : Bool} {P : Value → Prop}
    (h : CallS w f dN uN news vs (fun v n => ∃ a k y o', v = .ref a ∧ (P y ∧ ∃ τ', o' = stem w κ τ' U) ∧ n = (a, tupO [.bool b, y] k) :: (pre ++ (d, o') :: post))) : CallS w f dN uN news vs (LsR w κ U d pre post b P) := by
  refine h.mono (fun _ h => h) ?_
  rintro v n ⟨a, k, y, o', rfl, ⟨hp, τ, rfl⟩, rfl⟩
  exact ⟨_, .mk a k y τ hp, fun _ h => h⟩

theorem lslice_from_bad0 {w : World} {rest : Led} {x dx : Addr} {κ τ : Keys} {T : Tool} {z : Str} {t t3 : Tok} (hx : (x, instObj 199 dx) ∈ rest) (hdx : ∀ p ∈ rest, p.1 ≠ dx) (hc : T.cur.length < 1000) (hz : z.length < 1000)
   (h : ¬ (0 ≤ T.bra ∧ T.bra ≤ T.ket ∧ T.ket ≤ T.limit ∧ T.limit ≤ T.cur.length)) :
   CallS w 241 5 64 ((dx, stem w κ τ T) :: rest) [.ref x, .int 3 t, .str z t3] (fun v n => ∃ a k y o', v = .ref a ∧ (y = .none ∧ ∃ τ', o' = stem w κ τ' T) ∧ n = (a, tupO [.bool true, y] k) :: (dx, o') :: rest) := by
  unfold CallS
  w_top off
  k_fill
  intros
  rename_i hret
  refine wpAny_call ?_
  k_dflt cell_enter
  rename Fr _ _ _ _ => F8
  refine useF ?_ F8; clear F8; intro m9 F8
  k_steps
  refine ret_ hret (by k_asm) (by k_asm) ⟨_, _, _, _, rfl, ⟨rfl, _, rfl⟩, rfl⟩
theorem lslice_from_bad {w : World} {news pre post : Led} {x dx : Addr} {κ τ : Keys} {T : Tool} {z : Str} {t t3 : Tok} (S : Spl dx (stem w κ τ T) news pre post) (hx : (x, instObj 199 dx) ∈ news) (hc : T.cur.length < 1000) (hz : z.length < 1000)
   (h : ¬ (0 ≤ T.bra ∧ T.bra ≤ T.ket ∧ T.ket ≤ T.limit ∧ T.limit ≤ T.cur.length)) :
   CallS w 241 5 64 news [.ref x, .int 3 t, .str z t3] (LsR w κ (T) dx pre post true (fun y => y = .none)) :=
  ((lslice_from_bad0 (S.inst hx) S.perm.2 hc hz h).spl S).obj

theorem lslice_from_spec0 {w : World} {rest : Led} {x dx : Addr} {κ τ : Keys} {T : Tool} {z : Str} {t t3 : Tok} (hx : (x, instObj 199 dx) ∈ rest) (hdx : ∀ p ∈ rest, p.1 ≠ dx) (hc : T.cur.length < 1000) (hz : z.length < 1000)
   (h : 0 ≤ T.bra ∧ T.bra ≤ T.ket ∧ T.ket ≤ T.limit ∧ T.limit ≤ T.cur.length) :
   CallS w 241 5 64 ((dx, stem w κ τ T) :: rest) [.ref x, .int 3 t, .str z t3] (fun v n => ∃ a k y o', v = .ref a ∧ (y = .none ∧ ∃ τ', o' = stem w κ τ' (T.from z)) ∧ n = (a, tupO [.bool false, y] k) :: (dx, o') :: rest) := by
  unfold CallS
  w_top off
  k_fill
  intros
  rename_i hret
  refine wpAny_call ?_
  k_dflt cell_enter
  rename Fr _ _ _ _ => F8
  refine useF ?_ F8; clear F8; intro m9 F8
  k_steps
  refine ret_ hret (by k_asm) (by k_asm) ⟨_, _, _, _, rfl, ⟨rfl, _, rfl⟩, rfl⟩
theorem lslice_from_spec {w : World} {news pre post : Led} {x dx : Addr} {κ τ : Keys} {T : Tool} {z : Str} {t t3 : Tok} (S : Spl dx (stem w κ τ T) news pre post) (hx : (x, instObj 199 dx) ∈ news) (hc : T.cur.length < 1000) (hz : z.length < 1000)
   (h : 0 ≤ T.bra ∧ T.bra ≤ T.ket ∧ T.ket ≤ T.limit ∧ T.limit ≤ T.cur.length) :
   CallS w 241 5 64 news [.ref x, .int 3 t, .str z t3] (LsR w κ ((T.from z)) dx pre post false (fun y => y = .none)) :=
  ((lslice_from_spec0 (S.inst hx) S.perm.2 hc hz h).spl S).obj

theorem lslice_del_bad0 {w : World} {rest : Led} {x dx : Addr} {κ τ : Keys} {T : Tool} {z : Str} {t t3 : Tok} (hx : (x, instObj 199 dx) ∈ rest) (hdx : ∀ p ∈ rest, p.1 ≠ dx) (hc : T.cur.length < 1000) (hz : z.length < 1000)
   (h : ¬ (0 ≤ T.bra ∧ T.bra ≤ T.ket ∧ T.ket ≤ T.limit ∧ T.limit ≤ T.cur.length)) :
   CallS w 241 5 64 ((dx, stem w κ τ T) :: rest) [.ref x, .int 4 t, .str z t3] (fun v n => ∃ a k y o', v = .ref a ∧ (y = .none ∧ ∃ τ', o' = stem w κ τ' T) ∧ n = (a, tupO [.bool true, y] k) :: (dx, o') :: rest) := by
  unfold CallS
  w_top off
  k_fill
  intros
  rename_i hret
  refine wpAny_call ?_
  k_dflt cell_enter
  rename Fr _ _ _ _ => F8
  refine useF ?_ F8; clear F8; intro m9 F8
  k_steps
  refine ret_ hret (by k_asm) (by k_asm) ⟨_, _, _, _, rfl, ⟨rfl, _, rfl⟩, rfl⟩
theorem lslice_del_bad {w : World} {news pre post : Led} {x dx : Addr} {κ τ : Keys} {T : Tool} {z : Str} {t t3 : Tok} (S : Spl dx (stem w κ τ T) news pre post) (hx : (x, instObj 199 dx) ∈ news) (hc : T.cur.length < 1000) (hz : z.length < 1000)
   (h : ¬ (0 ≤ T.bra ∧ T.bra ≤ T.ket ∧ T.ket ≤ T.limit ∧ T.limit ≤ T.cur.length)) :
   CallS w 241 5 64 news [.ref x, .int 4 t, .str z t3] (LsR w κ (T) dx pre post true (fun y => y = .none)) :=
  ((lslice_del_bad0 (S.inst hx) S.perm.2 hc hz h).spl S).obj

theorem lslice_del_spec0 {w : World} {rest : Led} {x dx : Addr} {κ τ : Keys} {T : Tool} {z : Str} {t t3 : Tok} (hx : (x, instObj 199 dx) ∈ rest) (hdx : ∀ p ∈ rest, p.1 ≠ dx) (hc : T.cur.length < 1000) (hz : z.length < 1000)
   (h : 0 ≤ T.bra ∧ T.bra ≤ T.ket ∧ T.ket ≤ T.limit ∧ T.limit ≤ T.cur.length) :
   CallS w 241 5 64 ((dx, stem w κ τ T) :: rest) [.ref x, .int 4 t, .str z t3] (fun v n => ∃ a k y o', v = .ref a ∧ (y = .none ∧ ∃ τ', o' = stem w κ τ' (T.from (Str.ofString ""))) ∧ n = (a, tupO [.bool false, y] k) :: (dx, o') :: rest) := by
  unfold CallS
  w_top off
  k_fill
  intros
  rename_i hret
  refine wpAny_call ?_
  k_dflt cell_enter
  rename Fr _ _ _ _ => F8
  refine useF ?_ F8; clear F8; intro m9 F8
  k_steps
  refine ret_ hret (by k_asm) (by k_asm) ⟨_, _, _, _, rfl, ⟨rfl, _, rfl⟩, rfl⟩
theorem lslice_del_spec {w : World} {news pre post : Led} {x dx : Addr} {κ τ : Keys} {T : Tool} {z : Str} {t t3 : Tok} (S : Spl dx (stem w κ τ T) news pre post) (hx : (x, instObj 199 dx) ∈ news) (hc : T.cur.length < 1000) (hz : z.length < 1000)
   (h : 0 ≤ T.bra ∧ T.bra ≤ T.ket ∧ T.ket ≤ T.limit ∧ T.limit ≤ T.cur.length) :
   CallS w 241 5 64 news [.ref x, .int 4 t, .str z t3] (LsR w κ ((T.from (Str.ofString ""))) dx pre post false (fun y => y = .none)) :=
  ((lslice_del_spec0 (S.inst hx) S.perm.2 hc hz h).spl S).obj

theorem lslice_to_bad0 {w : World} {rest : Led} {x dx : Addr} {κ τ : Keys} {T : Tool} {z : Str} {t t3 : Tok} (hx : (x, instObj 199 dx) ∈ rest) (hdx : ∀ p ∈ rest, p.1 ≠ dx) (hc : T.cur.length < 1000) (hz : z.length < 1000)
   (h : ¬ (0 ≤ T.bra ∧ T.bra ≤ T.ket ∧ T.ket ≤ T.limit ∧ T.limit ≤ T.cur.length)) :
   CallS w 241 5 64 ((dx, stem w κ τ T) :: rest) [.ref x, .int 5 t, .str z t3] (fun v n => ∃ a k y o', v = .ref a ∧ (y = .none ∧ ∃ τ', o' = stem w κ τ' T) ∧ n = (a, tupO [.bool true, y] k) :: (dx, o') :: rest) := by
  unfold CallS
  w_top off
  k_fill
  intros
  rename_i hret
  refine wpAny_call ?_
  k_dflt cell_enter
  rename Fr _ _ _ _ => F8
  refine useF ?_ F8; clear F8; intro m9 F8
  k_steps
  refine ret_ hret (by k_asm) (by k_asm) ⟨_, _, _, _, rfl, ⟨rfl, _, rfl⟩, rfl⟩
theorem lslice_to_bad {w : World} {news pre post : Led} {x dx : Addr} {κ τ : Keys} {T : Tool} {z : Str} {t t3 : Tok} (S : Spl dx (stem w κ τ T) news pre post) (hx : (x, instObj 199 dx) ∈ news) (hc : T.cur.length < 1000) (hz : z.length < 1000)
   (h : ¬ (0 ≤ T.bra ∧ T.bra ≤ T.ket ∧ T.ket ≤ T.limit ∧ T.limit ≤ T.cur.length)) :
   CallS w 241 5 64 news [.ref x, .int 5 t, .str z t3] (LsR w κ (T) dx pre post true (fun y => y = .none)) :=
  ((lslice_to_bad0 (S.inst hx) S.perm.2 hc hz h).spl S).obj

theorem lslice_to_spec0 {w : World} {rest : Led} {x dx : Addr} {κ τ : Keys} {T : Tool} {z : Str} {t t3 : Tok} (hx : (x, instObj 199 dx) ∈ rest) (hdx : ∀ p ∈ rest, p.1 ≠ dx) (hc : T.cur.length < 1000) (hz : z.length < 1000)
   (h : 0 ≤ T.bra ∧ T.bra ≤ T.ket ∧ T.ket ≤ T.limit ∧ T.limit ≤ T.cur.length) :
   CallS w 241 5 64 ((dx, stem w κ τ T) :: rest) [.ref x, .int 5 t, .str z t3] (fun v n => ∃ a k y o', v = .ref a ∧ ((∃ t, y = .str (Txt.slice T.cur (some T.bra) (some T.ket)) t) ∧ ∃ τ', o' = stem w κ τ' T) ∧ n = (a, tupO [.bool false, y] k) :: (dx, o') :: rest) := by
  unfold CallS
  w_top off
  k_fill
  intros
  rename_i hret
  refine wpAny_call ?_
  k_dflt cell_enter
  rename Fr _ _ _ _ => F8
  refine useF ?_ F8; clear F8; intro m9 F8
  k_steps
  refine ret_ hret (by k_asm) (by k_asm) ⟨_, _, _, _, rfl, ⟨⟨_, rfl⟩, _, rfl⟩, rfl⟩
theorem lslice_to_spec {w : World} {news pre post : Led} {x dx : Addr} {κ τ : Keys} {T : Tool} {z : Str} {t t3 : Tok} (S : Spl dx (stem w κ τ T) news pre post) (hx : (x, instObj 199 dx) ∈ news) (hc : T.cur.length < 1000) (hz : z.length < 1000)
   (h : 0 ≤ T.bra ∧ T.bra ≤ T.ket ∧ T.ket ≤ T.limit ∧ T.limit ≤ T.cur.length) :
   CallS w 241 5 64 news [.ref x, .int 5 t, .str z t3] (LsR w κ (T) dx pre post false (fun y => ∃ t, y = .str (Txt.slice T.cur (some T.bra) (some T.ket)) t)) :=
  ((lslice_to_spec0 (S.inst hx) S.perm.2 hc hz h).spl S).obj
/-! the law's own statements, by their places in the program -/
noncomputable def atS (l : List Stmt) (i : Nat) : Stmt := l.getD i (.Pass ⟨0, 0, 0, 0⟩)
noncomputable def defBody : Stmt → List Stmt
  | .FunctionDef (body := b) .. => b
  | _ => []
noncomputable def defScope : Stmt → Option Scope
  | .FunctionDef (scope := s) .. => some s
  | _ => none
noncomputable def forBody : Stmt → List Stmt
  | .For (body := b) .. => b
  | _ => []
noncomputable def ifBody : Stmt → List Stmt
  | .If (body := b) .. => b
  | _ => []
noncomputable def ifElse : Stmt → List Stmt
  | .If (orelse := b) .. => b
  | _ => []
noncomputable def elifS (s : Stmt) : Stmt := atS (ifElse s) 0
noncomputable def lawDef : Stmt := atS Challenge.pw_is0007_01.main.body 11
noncomputable def lawBody : List Stmt := defBody lawDef
noncomputable def lawScope : Scope := (defScope lawDef).getD { kind := .function, names := [], isGenerator := false, isCoroutine := false }
noncomputable def turnBody : List Stmt := forBody (atS lawBody 7)
noncomputable def chain : Stmt := atS turnBody 13
noncomputable def lastIf : Stmt := atS turnBody 14
noncomputable def el1 : Stmt := elifS chain
noncomputable def el3 : Stmt := elifS el1
noncomputable def el6 : Stmt := elifS el3
noncomputable def el7 : Stmt := elifS el6
noncomputable def el8 : Stmt := elifS el7
noncomputable def el10 : Stmt := elifS el8
noncomputable def el11 : Stmt := elifS el10
noncomputable def br0 : List Stmt := ifBody chain
noncomputable def br1 : List Stmt := ifBody el1
noncomputable def br3 : List Stmt := ifBody el3
noncomputable def br6 : List Stmt := ifBody el6
noncomputable def br7 : List Stmt := ifBody el7
noncomputable def br8 : List Stmt := ifBody el8
noncomputable def br10 : List Stmt := ifBody el10
noncomputable def br11 : List Stmt := ifBody el11
noncomputable def br12 : List Stmt := ifElse el11
/-- two addresses that differ (hidden from lia) -/
structure Apart (a b : Addr) : Prop where
  ne : a ≠ b
theorem Apart.symm {a b : Addr} (h : Apart a b) : Apart b a := ⟨h.ne.symm⟩
/-- a frame's map with some names told apart -/
noncomputable def upds : List (Str × Value) → (Str → Option Value) → Str → Option Value
  | [], m => m
  | p :: r, m => fun y => if y = p.1 then some p.2 else upds r m y
noncomputable def UpdOk (m : Str → Option Value) : List (Str × Value) → Prop
  | [] => True
  | p :: r => m p.1 = some p.2 ∧ UpdOk m r
theorem upds_self {m : Str → Option Value} : ∀ {bs : List (Str × Value)}, UpdOk m bs → upds bs m = m
  | [], _ => rfl
  | p :: r, h => by
    funext y
    show (if y = p.1 then some p.2 else upds r m y) = m y
    rw [upds_self h.2]
    split
    · rename_i e; rw [e, h.1]
    · rfl
theorem frUpds {h₀ h : Heap} {L : Addr} {m : Str → Option Value} {bs : List (Str × Value)} (F : Fr h₀ L h m) (H : UpdOk m bs) : Fr h₀ L h (upds bs m) := by
  rw [upds_self H]; exact F
theorem ne_of_cls {h₀ h : Heap} {L b d : Addr} {o o' : Obj} {news : Led} (N : News h₀ L h news) (h1 : (b, o) ∈ news) (h2 : (d, o') ∈ news) (c : o.cls ≠ o'.cls) : b ≠ d := by
  intro e
  subst e
  have a1 := (N _ h1).1
  have a2 := (N _ h2).1
  rw [a1] at a2
  exact c (congrArg Obj.cls (Option.some.inj a2))
inductive Same : Value → Value → Prop
  | none : Same .none .none
  | int (n : Int) (t t' : Tok) : Same (.int n t) (.int n t')
  | str (x : Str) (t t' : Tok) : Same (.str x t) (.str x t')
structure Good (j : Nat) (S : St) : Prop where
  ol : Ones S.l
  or : Ones S.r
  len : S.l.length + S.r.length ≤ 8 + 4 * j
  beh : S.behind ≤ S.l.length + S.r.length
theorem Good.up {j : Nat} {S : St} (h : Good j S) : Good (j + 1) S := ⟨h.ol, h.or, by have := h.len; lia, h.beh⟩
noncomputable def lawEnv (L fa : Addr) (ccd : Value) : Env := envOf (Str.ofString "law") lawScope L fa ccd
/-- what lies between the deed and the look -/
inductive Mid (w : World) (ns : List Int) (j : Nat) (h₀ : Heap) (L I : Addr) (it : Obj) (s : Shared) : Shared → Prop
  | mk (h' : Heap) (tk' : Nat) (m' : Str → Option Value) (xT dT xO dO a l r k kl kr nl : Addr) (vl vr wl wr nv : List Value) (oT oO : Obj) (t1 t2 t3 t4 u1 u2 u3 u4 : Tok) (c0 c1 c2 c3 c4 c5 c6 : Nat) (sl sr zl zr : List Str) (b1 b2 b3 b4 e1 e2 e3 e4 : Int) (vt vd : Value) (κ τ κ' τ' : Keys)
    (F : Fr h₀ L h' (upds [(Str.ofString "tool", .ref xT), (Str.ofString "other", .ref xO), (Str.ofString "mine", .ref a), (Str.ofString "kept", .ref k), (Str.ofString "numbers", .ref nl), (Str.ofString "told", vt), (Str.ofString "due", vd)] m'))
    (N : News h₀ L h' [(I, it), (xT, instObj 199 dT), (dT, oT), (xO, instObj 199 dO), (dO, oO), (a, tupO [.ref l, .ref r, .int b1 t1, .int b2 t2, .int b3 t3, .int b4 t4] c0), (l, listOf (List.toArray vl) c1), (r, listOf (List.toArray vr) c2),
      (k, tupO [.ref kl, .ref kr, .int e1 u1, .int e2 u2, .int e3 u3, .int e4 u4] c3), (kl, listOf (List.toArray wl) c4), (kr, listOf (List.toArray wr) c5), (nl, listOf (List.toArray nv) c6)])
    (il : StrsAre vl sl) (ir : StrsAre vr sr) (jl : StrsAre wl zl) (jr : StrsAre wr zr) (iN : IntsAre nv ns) (hne : Apart dO dT) (hs : Same vt vd)
    (eT : oT = stem w κ τ (toolOf ⟨sl, sr, b1, b2, b3, b4⟩)) (eO : oO = stem w κ' τ' (toolOf ⟨zl, zr, e1, e2, e3, e4⟩)) (g : Good j ⟨sl, sr, b1, b2, b3, b4⟩) (gk : Good j ⟨zl, zr, e1, e2, e3, e4⟩) :
    Mid w ns j h₀ L I it s { s with heap := h', toks := tk' }
/-- what holds between two turns -/
inductive Inv (w : World) (ns : List Int) (j : Nat) (m : Str → Option Value) : Led → Prop
  | mk (xT dT xO dO a l r k kl kr nl : Addr) (vl vr wl wr nv : List Value) (κ τ κ' τ' : Keys) (t1 t2 t3 t4 u1 u2 u3 u4 : Tok) (c0 c1 c2 c3 c4 c5 c6 : Nat) (S Sk : St)
    (hU : UpdOk m [(Str.ofString "tool", .ref xT), (Str.ofString "other", .ref xO), (Str.ofString "mine", .ref a), (Str.ofString "kept", .ref k), (Str.ofString "numbers", .ref nl)])
    (il : StrsAre vl S.l) (ir : StrsAre vr S.r) (jl : StrsAre wl Sk.l) (jr : StrsAre wr Sk.r) (iN : IntsAre nv ns) (hne : Apart dO dT) (g : Good j S) (gk : Good j Sk) :
    Inv w ns j m [(xT, instObj 199 dT), (dT, stem w κ τ (toolOf S)), (xO, instObj 199 dO), (dO, stem w κ' τ' (toolOf Sk)), (a, tupO [.ref l, .ref r, .int S.behind t1, .int S.back t2, .int S.bra t3, .int S.ket t4] c0), (l, listOf (List.toArray vl) c1), (r, listOf (List.toArray vr) c2),
      (k, tupO [.ref kl, .ref kr, .int Sk.behind u1, .int Sk.back u2, .int Sk.bra u3, .int Sk.ket u4] c3), (kl, listOf (List.toArray wl) c4), (kr, listOf (List.toArray wr) c5), (nl, listOf (List.toArray nv) c6)]
inductive Next (w : World) (ns : List Int) (j : Nat) (h₀ : Heap) (L I : Addr) (it : Obj) (s : Shared) : Shared → Prop
  | mk (h' : Heap) (tk' : Nat) (m' : Str → Option Value) (news' : Led) (F : Fr h₀ L h' m') (N : News h₀ L h' ((I, it) :: news')) (hI : Inv w ns j m' news') : Next w ns j h₀ L I it s { s with heap := h', toks := tk' }
theorem Mid.mk' {w : World} {ns : List Int} {j : Nat} {h₀ : Heap} {L I : Addr} {it : Obj} {s : Shared} {h' : Heap} {tk' : Nat} {m' : Str → Option Value} {xT dT xO dO a l r k kl kr nl : Addr} {vl vr wl wr nv : List Value} {oT oO : Obj} {t1 t2 t3 t4 u1 u2 u3 u4 : Tok} {c0 c1 c2 c3 c4 c5 c6 : Nat} {sl sr zl zr : List Str} {b1 b2 b3 b4 e1 e2 e3 e4 : Int} {vt vd : Value}
    (F : Fr h₀ L h' (upds [(Str.ofString "tool", .ref xT), (Str.ofString "other", .ref xO), (Str.ofString "mine", .ref a), (Str.ofString "kept", .ref k), (Str.ofString "numbers", .ref nl), (Str.ofString "told", vt), (Str.ofString "due", vd)] m'))
    (N : News h₀ L h' [(I, it), (xT, instObj 199 dT), (dT, oT), (xO, instObj 199 dO), (dO, oO), (a, tupO [.ref l, .ref r, .int b1 t1, .int b2 t2, .int b3 t3, .int b4 t4] c0), (l, listOf (List.toArray vl) c1), (r, listOf (List.toArray vr) c2),
      (k, tupO [.ref kl, .ref kr, .int e1 u1, .int e2 u2, .int e3 u3, .int e4 u4] c3), (kl, listOf (List.toArray wl) c4), (kr, listOf (List.toArray wr) c5), (nl, listOf (List.toArray nv) c6)])
    (il : StrsAre vl sl) (ir : StrsAre vr sr) (jl : StrsAre wl zl) (jr : StrsAre wr zr) (iN : IntsAre nv ns) (hne : Apart dO dT) (hs : Same vt vd)
    (eT : ∃ κ τ, oT = stem w κ τ (toolOf ⟨sl, sr, b1, b2, b3, b4⟩)) (eO : ∃ κ τ, oO = stem w κ τ (toolOf ⟨zl, zr, e1, e2, e3, e4⟩)) (g : Good j ⟨sl, sr, b1, b2, b3, b4⟩) (gk : Good j ⟨zl, zr, e1, e2, e3, e4⟩) :
    Mid w ns j h₀ L I it s { s with heap := h', toks := tk' } := by
  obtain ⟨κ, τ, eT⟩ := eT
  obtain ⟨κ', τ', eO⟩ := eO
  exact Mid.mk _ _ _ _ _ _ _ _ _ _ _ _ _ _ _ _ _ _ _ _ _ _ _ _ _ _ _ _ _ _ _ _ _ _ _ _ _ _ _ _ _ _ _ _ _ _ _ _ _ _ κ τ κ' τ' F N il ir jl jr iN hne hs eT eO g gk
theorem Inv.mk' {w : World} {ns : List Int} {j : Nat} {m : Str → Option Value} {xT dT xO dO a l r k kl kr nl : Addr} {vl vr wl wr nv : List Value} {κ τ κ' τ' : Keys} {t1 t2 t3 t4 u1 u2 u3 u4 : Tok} {c0 c1 c2 c3 c4 c5 c6 : Nat} {S Sk : St}
    (hU : UpdOk m [(Str.ofString "tool", .ref xT), (Str.ofString "other", .ref xO), (Str.ofString "mine", .ref a), (Str.ofString "kept", .ref k), (Str.ofString "numbers", .ref nl)])
    (il : StrsAre vl S.l) (ir : StrsAre vr S.r) (jl : StrsAre wl Sk.l) (jr : StrsAre wr Sk.r) (iN : IntsAre nv ns) (hne : Apart dO dT) (g : Good j S) (gk : Good j Sk) :
    Inv w ns j m [(xT, instObj 199 dT), (dT, stem w κ τ (toolOf S)), (xO, instObj 199 dO), (dO, stem w κ' τ' (toolOf Sk)), (a, tupO [.ref l, .ref r, .int S.behind t1, .int S.back t2, .int S.bra t3, .int S.ket t4] c0), (l, listOf (List.toArray vl) c1), (r, listOf (List.toArray vr) c2),
      (k, tupO [.ref kl, .ref kr, .int Sk.behind u1, .int Sk.back u2, .int Sk.bra u3, .int Sk.ket u4] c3), (kl, listOf (List.toArray wl) c4), (kr, listOf (List.toArray wr) c5), (nl, listOf (List.toArray nv) c6)] :=
  Inv.mk _ _ _ _ _ _ _ _ _ _ _ _ _ _ _ _ _ _ _ _ _ _ _ _ _ _ _ _ _ _ _ _ _ _ _ _ _ hU il ir jl jr iN hne g gk
theorem str_ext {a b : Str} (h : a.cps.toList = b.cps.toList) : a = b := by
  cases a; cases b; congr 1; exact Array.toList_inj.mp h
theorem same_str {x y : Str} {t t' : Tok} (h : x = y) : Same (.str x t) (.str y t') := by subst h; exact .str ..
theorem same_int {x y : Int} {t t' : Tok} (h : x = y) : Same (.int x t) (.int y t') := by subst h; exact .int ..
theorem txt_app (a b : List Str) : txt (a ++ b) = txt a ++ txt b := by simp [txt]
theorem txt_nil : txt [] = [] := rfl
theorem txt_cons {a : Str} {r : List Str} : txt (a :: r) = a.cps.toList ++ txt r := by simp [txt]
theorem txt_drop {L : List Str} (h : Ones L) : ∀ k, txt (L.drop k) = (txt L).drop k := by
  induction L with
  | nil => intro k; simp [txt]
  | cons a r ih =>
    intro k
    cases k with
    | zero => rfl
    | succ k =>
      have h1 : a.cps.toList.length = 1 := by have := h a (by simp); simpa [Str.length] using this
      rw [txt_cons, List.drop_succ_cons, ih (fun b hb => h b (by simp [hb]))]
      match hq : a.cps.toList with
      | [c] => simp
      | [] => rw [hq] at h1; simp at h1
      | _ :: _ :: _ => rw [hq] at h1; simp at h1
theorem txt_take {L : List Str} (h : Ones L) : ∀ k, txt (L.take k) = (txt L).take k := by
  induction L with
  | nil => intro k; simp [txt]
  | cons a r ih =>
    intro k
    cases k with
    | zero => simp [txt]
    | succ k =>
      have h1 : a.cps.toList.length = 1 := by have := h a (by simp); simpa [Str.length] using this
      rw [txt_cons, List.take_succ_cons, txt_cons, ih (fun b hb => h b (by simp [hb]))]
      match hq : a.cps.toList with
      | [c] => simp
      | [] => rw [hq] at h1; simp at h1
      | _ :: _ :: _ => rw [hq] at h1; simp at h1
theorem txt_signs (z : Str) : txt (signs z) = z.cps.toList := by
  unfold signs txt
  generalize z.cps.toList = l
  induction l with
  | nil => rfl
  | cons a r ih => simpa using ih
theorem kms_lo_pos {x : Int} {n : Nat} (h : 0 ≤ x) : kms_lo (some x) n = min x.toNat n := by
  show (if x < 0 then _ else _) = _
  rw [if_neg (by lia)]
theorem kms_hi_pos {x : Int} {n : Nat} (h : 0 ≤ x) : kms_hi (some x) n = min x.toNat n := by
  show (if x < 0 then _ else _) = _
  rw [if_neg (by lia)]
theorem pick_to {α : Type} (l : List α) {j : Int} (h : 0 ≤ j) : pick l none (some j) = l.take j.toNat := by
  unfold pick
  rw [kms_hi_pos h]
  show (l.drop 0).take (min j.toNat l.length - 0) = _
  rw [List.drop_zero, Nat.sub_zero, kmk_take_min]
theorem pick_from {α : Type} (l : List α) {i : Int} (h : 0 ≤ i) : pick l (some i) none = l.drop i.toNat := by
  unfold pick
  rw [kms_lo_pos h, kmk_drop_min]
  show (l.drop i.toNat).take (l.length - min i.toNat l.length) = _
  rw [List.take_of_length_le]
  rw [List.length_drop]; exact Nat.sub_le_sub_left (Nat.min_le_left _ _) _
theorem pick_run {α : Type} (l : List α) {i j : Int} (h : 0 ≤ i) (h1 : i ≤ j) (h2 : j ≤ l.length) : pick l (some i) (some j) = (l.drop i.toNat).take (j - i).toNat := by
  obtain ⟨a, rfl⟩ := Int.eq_ofNat_of_zero_le h
  obtain ⟨b, rfl⟩ := Int.eq_ofNat_of_zero_le (Int.le_trans h h1)
  unfold pick
  rw [kms_lo_pos h, kms_hi_pos (Int.le_trans h h1), Int.toNat_natCast, Int.toNat_natCast, Nat.min_eq_left (Int.ofNat_le.mp (Int.le_trans h1 h2)), Nat.min_eq_left (Int.ofNat_le.mp h2), Int.toNat_sub]
theorem slice_plain {x : Str} {i j : Int} (h0 : 0 ≤ i) (h1 : i ≤ j) (h2 : j ≤ x.length) : (Txt.slice x (some i) (some j)).cps.toList = (x.cps.toList.drop i.toNat).take (j - i).toNat := by
  have e : Txt.slice x (some i) (some j) = _ := StrLaws.sliceText_plain (x := x) ⟨h0, h1, by simpa [Str.length] using h2⟩
  rw [e]
theorem slice_fromN {x : Str} {a : Nat} (h2 : a ≤ x.length) : (Txt.slice x (some (a : Int)) none).cps.toList = x.cps.toList.drop a := by
  have e : Txt.slice x (some (a : Int)) none = _ := StrLaws.sliceText_from (x := x) ⟨Int.natCast_nonneg a, by simpa [Str.length] using h2⟩
  rw [e]
  show (x.cps.toList.drop a).take _ = _
  rw [List.take_of_length_le]
  rw [List.length_drop, Int.toNat_sub]; exact Nat.le_refl _
theorem slice_to {x : Str} {j : Int} (h : 0 ≤ j) : (Txt.slice x (some 0) (some j)).cps.toList = x.cps.toList.take j.toNat := by
  by_cases hj : j ≤ x.length
  · rw [slice_plain (Int.le_refl 0) h hj]
    show (x.cps.toList.drop 0).take _ = _
    rw [List.drop_zero, Int.sub_zero]
  · have e : Txt.slice x (some 0) (some j) = Txt.slice x (some 0) (some (x.length : Int)) := by
      have q : Builtin.Str.strSliceIndices (some 0) (some j) 1 x.length = Builtin.Str.strSliceIndices (some 0) (some (x.length : Int)) 1 x.length := by
        have a : ¬ (j < 0) := by lia
        have b : ¬ ((x.length : Int) < 0) := by lia
        have c : min j (x.length : Int) = x.length := by lia
        simp only [Builtin.Str.strSliceIndices, if_neg a, if_neg b, c, Int.min_self, show ((1 : Int) > 0) = True from by simp, if_true]
      unfold Txt.slice
      rw [q]
    have hl : x.cps.toList.length = x.length := by simp [Str.length]
    rw [e, slice_plain (Int.le_refl 0) (by lia) (Int.le_refl _)]
    show (x.cps.toList.drop 0).take _ = _
    rw [List.drop_zero, List.take_of_length_le (by lia), List.take_of_length_le (by lia)]
theorem pick_toN {α : Type} (l : List α) (a : Nat) : pick l none (some (a : Int)) = l.take a := pick_to l (Int.natCast_nonneg a)
theorem pick_fromN {α : Type} (l : List α) (a : Nat) : pick l (some (a : Int)) none = l.drop a := pick_from l (Int.natCast_nonneg a)
theorem slice_toN {x : Str} (a : Nat) : (Txt.slice x (some 0) (some (a : Int))).cps.toList = x.cps.toList.take a := slice_to (Int.natCast_nonneg a)
theorem ar0 {a b n g : Nat} (h : a ≤ b) (h' : b ≤ n) : ((min a n + g + (n - b) : Nat) : Int) = n + (g - (b - a)) := by
  rw [Nat.min_eq_left (Nat.le_trans h h')]
  obtain ⟨c, rfl⟩ := Nat.exists_eq_add_of_le h'
  rw [Nat.add_sub_cancel_left]
  lia
theorem ar1 {a b n r g : Nat} (h : a ≤ b) (h' : b ≤ n) : ((min a n + g + (n - b) + r : Nat) : Int) = n + r + (g - (b - a)) := by
  rw [Int.natCast_add, ar0 h h']
  clear h h'
  lia
theorem ar2 {n m g a b : Nat} {lo hi : Int} (ea : lo - n = a) (eb : hi - n = b) (h1 : lo ≤ hi) (h2 : hi ≤ n + m) : ((n + (min a m + g + (m - b)) : Nat) : Int) = n + m + (g - (hi - lo)) := by
  have h : a ≤ b := Int.ofNat_le.mp (ea ▸ eb ▸ Int.sub_le_sub_right h1 _)
  have h' : b ≤ m := Int.ofNat_le.mp (eb ▸ Int.sub_left_le_of_le_add h2)
  rw [Int.natCast_add, ar0 h h', ← ea, ← eb]
  clear h h' ea eb h1 h2
  lia
theorem ar3 {n m g a b : Nat} {hi : Int} (h : a ≤ n) (eb : hi - n = b) (h2 : hi ≤ n + m) : ((min a n + (g + (m - b)) : Nat) : Int) = n + m + (g - (hi - a)) := by
  have h' : b ≤ m := Int.ofNat_le.mp (eb ▸ Int.sub_left_le_of_le_add h2)
  rw [Nat.min_eq_left h, Int.natCast_add, Int.natCast_add, Int.natCast_sub h', ← eb]
  clear h h' eb h2
  lia
theorem add_sub_l (n a : Nat) : ((n + a : Nat) : Int) - n = a := by rw [Int.natCast_add, Int.add_comm, Int.add_sub_cancel]
theorem join_slice {L : List Str} (h : Ones L) {i j : Int} (h0 : 0 ≤ i) (h1 : i ≤ j) (h2 : j ≤ L.length) :
    Txt.slice (PySem.Txt.join (Str.ofString "") L) (some i) (some j) = PySem.Txt.join (Str.ofString "") (pick L (some i) (some j)) := by
  apply str_ext
  rw [slice_plain h0 h1 (by rw [join_len h]; exact h2), join_cps, join_cps, pick_run L h0 h1 h2, txt_take (fun a ha => h a (List.mem_of_mem_drop ha)), txt_drop h]
theorem law6 {L : List Str} (h : Ones L) {j k : Int} (h0 : 0 ≤ j) (hk : k = min j L.length) :
    Txt.slice (PySem.Txt.join (Str.ofString "") L) (some 0) (some j) = PySem.Txt.join (Str.ofString "") (pick L none (some k)) := by
  apply str_ext
  rw [slice_to h0, join_cps, join_cps, pick_to L (by lia), txt_take h]
  have e := txt_len h
  by_cases q : j ≤ L.length
  · rw [hk, Int.min_eq_left q]
  · rw [hk, Int.min_eq_right (by lia), List.take_of_length_le (by lia), List.take_of_length_le (by lia)]
theorem ones_signs' (z : Str) : Ones (signs z) := ones_signs z
theorem St.cut_ones {S : St} {lo hi : Int} {g : List Str} (o1 : Ones S.l) (o2 : Ones S.r) (og : Ones g) : Ones (S.cut lo hi g).l ∧ Ones (S.cut lo hi g).r := by
  unfold St.cut
  split
  · exact ⟨((o1.pick _ _).app og).app (o1.pick _ _), o2⟩
  · split
    · exact ⟨o1, ((o2.pick _ _).app og).app (o2.pick _ _)⟩
    · exact ⟨o1.pick _ _, og.app (o2.pick _ _)⟩
theorem St.cut_rest {S : St} {lo hi : Int} {g : List Str} : (S.cut lo hi g).behind = S.behind ∧ (S.cut lo hi g).back = S.back ∧ (S.cut lo hi g).bra = S.bra ∧ (S.cut lo hi g).ket = S.ket := by
  unfold St.cut
  split
  · exact ⟨rfl, rfl, rfl, rfl⟩
  · split <;> exact ⟨rfl, rfl, rfl, rfl⟩
theorem St.cut_len {S : St} {lo hi : Int} {g : List Str} (h0 : 0 ≤ lo) (h1 : lo ≤ hi) (h2 : hi ≤ S.l.length + S.r.length) :
    (((S.cut lo hi g).l.length + (S.cut lo hi g).r.length : Nat) : Int) = S.l.length + S.r.length + (g.length - (hi - lo)) := by
  unfold St.cut
  split
  · rename_i hb
    obtain ⟨a, rfl⟩ := Int.eq_ofNat_of_zero_le h0
    obtain ⟨b, rfl⟩ := Int.eq_ofNat_of_zero_le (Int.le_trans h0 h1)
    simp only [pick_toN, pick_fromN, List.length_append, List.length_take, List.length_drop]
    exact ar1 (Int.ofNat_le.mp h1) (Int.ofNat_le.mp hb)
  · split
    · rename_i hb ha
      obtain ⟨a, ea⟩ := Int.eq_ofNat_of_zero_le (Int.sub_nonneg_of_le ha)
      obtain ⟨b, eb⟩ := Int.eq_ofNat_of_zero_le (Int.sub_nonneg_of_le (Int.le_trans ha h1))
      rw [ea, eb, pick_toN, pick_fromN]
      simp only [List.length_append, List.length_take, List.length_drop]
      exact ar2 ea eb h1 h2
    · rename_i hb ha
      obtain ⟨a, rfl⟩ := Int.eq_ofNat_of_zero_le h0
      obtain ⟨b, eb⟩ := Int.eq_ofNat_of_zero_le (Int.sub_nonneg_of_le (Int.le_of_lt (Int.not_le.mp hb)))
      rw [eb, pick_toN, pick_fromN]
      simp only [List.length_append, List.length_take, List.length_drop]
      exact ar3 (Int.ofNat_le.mp (Int.le_of_lt (Int.not_le.mp ha))) eb h2
theorem St.cut_left {S : St} {lo hi : Int} {g : List Str} (h0 : 0 ≤ lo) (h1 : lo ≤ hi) :
    ((S.cut lo hi g).l.length : Int) = if hi ≤ S.l.length then (S.l.length : Int) + (g.length - (hi - lo)) else if lo < S.l.length then lo else S.l.length := by
  unfold St.cut
  split
  · rename_i hb
    obtain ⟨a, rfl⟩ := Int.eq_ofNat_of_zero_le h0
    obtain ⟨b, rfl⟩ := Int.eq_ofNat_of_zero_le (Int.le_trans h0 h1)
    simp only [pick_toN, pick_fromN, List.length_append, List.length_take, List.length_drop]
    exact ar0 (Int.ofNat_le.mp h1) (Int.ofNat_le.mp hb)
  · split
    · rename_i hb ha
      rw [if_neg (Int.not_lt.mpr ha)]
    · rename_i hb ha
      rw [if_pos (Int.not_le.mp ha)]
      obtain ⟨a, rfl⟩ := Int.eq_ofNat_of_zero_le h0
      simp only [pick_toN, List.length_take]
      rw [Nat.min_eq_left (Int.ofNat_le.mp (Int.le_of_lt (Int.not_le.mp ha)))]
theorem St.cut_text {S : St} {lo hi : Int} {z : Str} (o1 : Ones S.l) (o2 : Ones S.r) (h0 : 0 ≤ lo) (h1 : lo ≤ hi) (h2 : hi ≤ S.l.length + S.r.length) :
    Txt.slice S.text (some 0) (some lo) ++ z ++ Txt.slice S.text (some hi) none = (S.cut lo hi (signs z)).text := by
  have e1 := txt_len o1
  obtain ⟨a, rfl⟩ := Int.eq_ofNat_of_zero_le h0
  obtain ⟨b, rfl⟩ := Int.eq_ofNat_of_zero_le (Int.le_trans h0 h1)
  have el : S.text.length = S.l.length + S.r.length := by rw [join_len (o1.app o2), List.length_append]
  have hab : a ≤ b := Int.ofNat_le.mp h1
  apply str_ext
  rw [append_cps, append_cps, slice_toN, slice_fromN (by rw [el]; exact Int.ofNat_le.mp h2), join_cps, join_cps, txt_app]
  clear h0 h1 h2 el
  unfold St.cut
  split
  · rename_i hb
    have hb' := Int.ofNat_le.mp hb
    simp only [txt_app, pick_toN, pick_fromN, txt_take o1, txt_drop o1, txt_signs]
    rw [List.take_append_of_le_length (e1 ▸ Nat.le_trans hab hb'), List.drop_append_of_le_length (e1 ▸ hb')]
    simp only [List.append_assoc]
  · split
    · rename_i hb ha
      obtain ⟨c, rfl⟩ := Nat.exists_eq_add_of_le (Int.ofNat_le.mp ha)
      obtain ⟨d, rfl⟩ := Nat.exists_eq_add_of_le (Nat.le_trans (Nat.le_add_right _ c) hab)
      simp only [txt_app]
      rw [add_sub_l, add_sub_l, pick_toN, pick_fromN, txt_take o2, txt_drop o2, txt_signs, List.take_append, List.drop_append, e1, Nat.add_sub_cancel_left, Nat.add_sub_cancel_left,
        List.take_of_length_le (e1 ▸ Nat.le_add_right _ _), List.drop_of_length_le (e1 ▸ Nat.le_add_right _ _)]
      simp only [List.append_assoc, List.nil_append]
    · rename_i hb ha
      obtain ⟨d, rfl⟩ := Nat.exists_eq_add_of_le (Int.ofNat_le.mp (Int.le_of_lt (Int.not_le.mp hb)))
      simp only [txt_app]
      rw [add_sub_l, pick_toN, pick_fromN, txt_take o1, txt_drop o2, txt_signs, List.take_append_of_le_length (e1 ▸ Int.ofNat_le.mp (Int.le_of_lt (Int.not_le.mp ha))), List.drop_append, e1, Nat.add_sub_cancel_left, List.drop_of_length_le (e1 ▸ Nat.le_add_right _ _)]
      simp only [List.append_assoc, List.nil_append]
theorem sub_add_swap (a b c : Int) : a - b + c = a + c - b := by rw [Int.sub_eq_add_neg, Int.sub_eq_add_neg, Int.add_right_comm]
theorem repl_law {S : St} {lo hi : Int} {z : Str} (o1 : Ones S.l) (o2 : Ones S.r) (h0 : 0 ≤ lo) (h1 : lo ≤ hi) (h2 : hi ≤ S.l.length + S.r.length) :
    (toolOf S).repl lo hi z = toolOf (S.cut lo hi (signs z)) := by
  have c1 := St.cut_text (z := z) o1 o2 h0 h1 h2
  have c2 := St.cut_left (S := S) (g := signs z) h0 h1
  have c3 := St.cut_rest (S := S) (lo := lo) (hi := hi) (g := signs z)
  have c4 := St.cut_len (S := S) (g := signs z) h0 h1 h2
  obtain ⟨p1, p2⟩ := St.cut_ones (lo := lo) (hi := hi) o1 o2 (ones_signs z)
  have el : S.text.length = S.l.length + S.r.length := by rw [join_len (o1.app o2), List.length_append]
  have el' : (S.cut lo hi (signs z)).text.length = (S.cut lo hi (signs z)).l.length + (S.cut lo hi (signs z)).r.length := by rw [join_len (p1.app p2), List.length_append]
  rw [signs_length] at c2 c4
  have t3 : (S.text.length : Int) - S.behind + (z.length - (hi - lo)) = (S.cut lo hi (signs z)).text.length - (S.cut lo hi (signs z)).behind := by rw [c3.1, el', c4, el, Int.natCast_add]; exact sub_add_swap _ _ _
  show (⟨_, _, _, _, _, _⟩ : Tool) = ⟨_, _, _, _, _, _⟩
  exact Tool.mk.injEq .. ▸ ⟨c1, c2.symm, t3, c3.2.1.symm, c3.2.2.1.symm, c3.2.2.2.symm⟩
theorem fm_lo (a : Int) {n : Int} (h : 0 < n) : 0 ≤ a.fmod n := by
  rw [Int.fmod_eq_emod_of_nonneg _ (by lia)]; exact Int.emod_nonneg _ (by lia)
theorem fm_hi (a : Int) {n : Int} (h : 0 < n) : a.fmod n < n := by
  rw [Int.fmod_eq_emod_of_nonneg _ (by lia)]; exact Int.emod_lt_of_pos _ h
theorem law7 {S : St} {here back : Int} (h0 : 0 ≤ here) (h1 : here ≤ S.l.length + S.r.length) :
    (⟨S.text, here, S.text.length - S.behind, back, S.bra, S.ket⟩ : Tool) = toolOf ⟨pick (S.l ++ S.r) none (some here), pick (S.l ++ S.r) (some here) none, S.behind, back, S.bra, S.ket⟩ := by
  have e : pick (S.l ++ S.r) none (some here) ++ pick (S.l ++ S.r) (some here) none = S.l ++ S.r := by
    rw [pick_to _ h0, pick_from _ h0, List.take_append_drop]
  have e2 : ((pick (S.l ++ S.r) none (some here)).length : Int) = here := by
    rw [pick_to _ h0, List.length_take, List.length_append]; lia
  unfold toolOf St.text
  simp only [e, e2]
theorem good7 {j : Nat} {S : St} {here back : Int} (g : Good j S) (h0 : 0 ≤ here) : Good (j + 1) ⟨pick (S.l ++ S.r) none (some here), pick (S.l ++ S.r) (some here) none, S.behind, back, S.bra, S.ket⟩ := by
  have e : (pick (S.l ++ S.r) none (some here)).length + (pick (S.l ++ S.r) (some here) none).length = S.l.length + S.r.length := by
    rw [← List.length_append, pick_to _ h0, pick_from _ h0, List.take_append_drop, List.length_append]
  have := g.len
  have := g.beh
  exact ⟨(g.ol.app g.or).pick _ _, (g.ol.app g.or).pick _ _, by dsimp only; lia, by dsimp only; lia⟩
theorem good8 {j : Nat} {S : St} {b c : Int} (g : Good j S) : Good (j + 1) ⟨S.l, S.r, S.behind, S.back, b, c⟩ := ⟨g.ol, g.or, by have := g.len; dsimp only; lia, g.beh⟩
theorem good10 {j : Nat} {S : St} {b : Int} (g : Good j S) (h : b ≤ S.l.length + S.r.length) : Good (j + 1) ⟨S.l, S.r, b, S.back, S.bra, S.ket⟩ := ⟨g.ol, g.or, by have := g.len; dsimp only; lia, h⟩
theorem law12 (z : Str) : freshT z = toolOf ⟨[], signs z, 0, 0, 0, z.length⟩ := by
  have e : St.text ⟨[], signs z, 0, 0, 0, z.length⟩ = z := by
    apply str_ext
    show (PySem.Txt.join (Str.ofString "") ([] ++ signs z)).cps.toList = _
    rw [List.nil_append, join_cps, txt_signs]
  unfold toolOf
  rw [e]
  show (⟨z, 0, z.length, 0, 0, z.length⟩ : Tool) = ⟨z, ((0 : Nat) : Int), z.length - 0, 0, 0, z.length⟩
  rw [Int.sub_zero]; rfl
theorem good12 {j : Nat} {z : Str} (h : z.length ≤ 4) : Good (j + 1) ⟨[], signs z, 0, 0, 0, z.length⟩ :=
  ⟨fun _ h => (List.not_mem_nil h).elim, ones_signs z, by simp only [List.length_nil, signs_length]; lia, by simp only [List.length_nil, signs_length]; lia⟩
theorem good_cut {j : Nat} {S S' : St} {z : Str} {lo hi b3 b4 : Int} (g : Good j S) (h : S' = S.cut lo hi (signs z)) (hz : z.length ≤ 4) (h0 : 0 ≤ lo) (h1 : lo ≤ hi) (h2 : hi ≤ S.l.length + S.r.length) (hb : S.behind ≤ S.l.length + S.r.length + (z.length - (hi - lo))) :
    Good (j + 1) ⟨S'.l, S'.r, S.behind, S.back, b3, b4⟩ := by
  obtain ⟨p1, p2⟩ := St.cut_ones (lo := lo) (hi := hi) g.ol g.or (ones_signs z)
  have c4 := St.cut_len (S := S) (g := signs z) h0 h1 h2
  have := g.len
  have := g.beh
  rw [← h] at p1 p2 c4
  rw [signs_length] at c4
  exact ⟨p1, p2, by dsimp only; lia, by dsimp only; lia⟩
theorem cut_eq {S S' : St} {lo hi : Int} {g : List Str} (h : S' = S.cut lo hi g) : S' = ⟨S'.l, S'.r, S.behind, S.back, S.bra, S.ket⟩ := by
  obtain ⟨a, b, c, d⟩ := St.cut_rest (S := S) (lo := lo) (hi := hi) (g := g)
  rw [← h] at a b c d
  rw [← a, ← b, ← c, ← d]
theorem good0 {j : Nat} {S S' : St} {z : Str} {lo hi : Int} (g : Good j S) (h : S' = S.cut lo hi (signs z)) (hz : z.length ≤ 4) (h0 : 0 ≤ lo) (h1 : lo ≤ hi) (h2 : hi ≤ S.l.length + S.r.length) (hb : S.behind ≤ S.l.length + S.r.length + (z.length - (hi - lo))) :
    Good (j + 1) S' := by
  have q := good_cut (b3 := S.bra) (b4 := S.ket) g h hz h0 h1 h2 hb
  rw [cut_eq h]
  exact q
theorem law0 {S S' : St} {z : Str} {lo hi : Int} (o1 : Ones S.l) (o2 : Ones S.r) (h : S' = S.cut lo hi (signs z)) (h0 : 0 ≤ lo) (h1 : lo ≤ hi) (h2 : hi ≤ S.l.length + S.r.length) :
    (toolOf S).repl lo hi z = toolOf ⟨S'.l, S'.r, S'.behind, S'.back, S'.bra, S'.ket⟩ := by
  rw [repl_law o1 o2 h0 h1 h2, h]
theorem told0 {S S' : St} {z : Str} {lo hi size : Int} (h : S' = S.cut lo hi (signs z)) (hsize : size = S.l.length + S.r.length) (h0 : 0 ≤ lo) (h1 : lo ≤ hi) (h2 : hi ≤ S.l.length + S.r.length) :
    (z.length : Int) - (hi - lo) = S'.l.length + S'.r.length - size := by
  have c4 := St.cut_len (S := S) (g := signs z) h0 h1 h2
  rw [← h, signs_length] at c4
  lia
theorem law1 {S S' : St} {z : Str} {lo hi size b3 b4 : Int} (o1 : Ones S.l) (o2 : Ones S.r) (h : S' = S.cut lo hi (signs z)) (hsize : size = S.l.length + S.r.length) (h0 : 0 ≤ lo) (h1 : lo ≤ hi) (h2 : hi ≤ S.l.length + S.r.length)
    (e3 : b3 = if lo ≤ S.bra then S'.l.length + S'.r.length - (size - S.bra) else S.bra) (e4 : b4 = if lo ≤ S.ket then S'.l.length + S'.r.length - (size - S.ket) else S.ket) :
    (toolOf S).ins lo hi z = toolOf ⟨S'.l, S'.r, S.behind, S.back, b3, b4⟩ := by
  have t := told0 h hsize h0 h1 h2
  have r := law0 o1 o2 h h0 h1 h2
  have qb : S'.behind = S.behind := by rw [h]; exact St.cut_rest.1
  rw [qb] at r
  have r1 := congrArg Tool.cur r
  have r2 := congrArg Tool.cursor r
  have r3 := congrArg Tool.limit r
  refine (ins_eq (toolOf S) lo hi z (U := toolOf ⟨S'.l, S'.r, S.behind, S.back, b3, b4⟩) r1.symm r2.symm r3.symm rfl ?_ ?_).symm
  · show b3 = _
    rw [e3, t]
    show _ = if lo ≤ S.bra then S.bra + _ else S.bra
    split <;> lia
  · show b4 = _
    rw [e4, t]
    show _ = if lo ≤ S.ket then S.ket + _ else S.ket
    split <;> lia
theorem law3 {S S' : St} {z : Str} (o1 : Ones S.l) (o2 : Ones S.r) (h : S' = S.cut S.bra S.ket (signs z)) (h0 : 0 ≤ S.bra) (h1 : S.bra ≤ S.ket) (h2 : S.ket ≤ S.l.length + S.r.length) :
    (toolOf S).from z = toolOf ⟨S'.l, S'.r, S.behind, S.back, S.bra, S.bra + (signs z).length⟩ := by
  have r := law0 o1 o2 h h0 h1 h2
  have qb : S'.behind = S.behind := by rw [h]; exact St.cut_rest.1
  rw [qb] at r
  have r1 := congrArg Tool.cur r
  have r2 := congrArg Tool.cursor r
  have r3 := congrArg Tool.limit r
  rw [signs_length]
  show (⟨_, _, _, _, _, _⟩ : Tool) = ⟨_, _, _, _, _, _⟩
  exact Tool.mk.injEq .. ▸ ⟨r1, r2, r3, rfl, rfl, rfl⟩
theorem holds_iff {n : List Int} {a b c d : Int} (p : n.Perm [0, a, b, c, d]) (o : List.Pairwise (fun x y => x ≤ y) n) : n = [0, a, b, c, d] ↔ (0 ≤ a ∧ a ≤ b ∧ b ≤ c ∧ c ≤ d) := by
  constructor
  · intro e
    rw [e] at o
    simp only [List.pairwise_cons, List.mem_cons] at o
    exact ⟨o.1 a (by simp), o.2.1 b (by simp), o.2.2.1 c (by simp), o.2.2.2.1 d (by simp)⟩
  · rintro ⟨h0, h1, h2, h3⟩
    refine p.eq_of_pairwise (le := fun x y : Int => x ≤ y) (fun x y _ _ h h' => Int.le_antisymm h h') o ?_
    simp only [List.pairwise_cons, List.mem_cons, List.not_mem_nil]
    refine ⟨?_, ?_, ?_, ?_, ?_, ?_⟩
    all_goals first | exact List.Pairwise.nil | (intro x hx; simp only [or_false] at hx; lia) | (intro x hx; exact hx.elim)
theorem holds_true {n : List Int} {a b c d : Int} (p : n.Perm [0, a, b, c, d]) (o : List.Pairwise (fun x y => x ≤ y) n) (h : 0 ≤ a ∧ a ≤ b ∧ b ≤ c ∧ c ≤ d) : decide (n = [0, a, b, c, d]) = true :=
  decide_eq_true ((holds_iff p o).mpr h)
theorem holds_false {n : List Int} {a b c d : Int} (p : n.Perm [0, a, b, c, d]) (o : List.Pairwise (fun x y => x ≤ y) n) (h : ¬ (0 ≤ a ∧ a ≤ b ∧ b ≤ c ∧ c ≤ d)) : decide (n = [0, a, b, c, d]) = false :=
  decide_eq_false fun e => h ((holds_iff p o).mp e)
theorem signs_none : signs (Str.ofString "") = [] := by
  have z : (Str.ofString "").cps.toList = [] := by decide
  unfold signs
  rw [z]; rfl
theorem law4 {S S' : St} (o1 : Ones S.l) (o2 : Ones S.r) (h : S' = S.cut S.bra S.ket []) (h0 : 0 ≤ S.bra) (h1 : S.bra ≤ S.ket) (h2 : S.ket ≤ S.l.length + S.r.length) :
    (toolOf S).from (Str.ofString "") = toolOf ⟨S'.l, S'.r, S.behind, S.back, S.bra, S.bra + (([] : List Str).length : Int)⟩ := by
  have h' : S' = S.cut S.bra S.ket (signs (Str.ofString "")) := by rw [signs_none]; exact h
  have q := law3 o1 o2 h' h0 h1 h2
  rw [signs_none] at q
  exact q
theorem good4 {j : Nat} {S S' : St} {b3 b4 : Int} (g : Good j S) (h : S' = S.cut S.bra S.ket []) (h0 : 0 ≤ S.bra) (h1 : S.bra ≤ S.ket) (h2 : S.ket ≤ S.l.length + S.r.length) (hb : S.behind ≤ S.l.length + S.r.length + (0 - (S.ket - S.bra))) :
    Good (j + 1) ⟨S'.l, S'.r, S.behind, S.back, b3, b4⟩ := by
  have z : (Str.ofString "").length = 0 := by decide
  have h' : S' = S.cut S.bra S.ket (signs (Str.ofString "")) := by rw [signs_none]; exact h
  exact good_cut g h' (by rw [z]; lia) h0 h1 h2 (by rw [z]; exact hb)
theorem three {ws : List Value} {ms : List Int} (h : IntsAre ws ms) (e : ms.length = 3) : ∃ a ta b tb c tc, ws = [.int a ta, .int b tb, .int c tc] := by
  cases h with
  | nil => simp at e
  | cons a ta h => cases h with
    | nil => simp at e
    | cons b tb h => cases h with
      | nil => simp at e
      | cons c tc h => cases h with
        | nil => exact ⟨a, ta, b, tb, c, tc, rfl⟩
        | cons _ _ _ => simp at e

theorem le_size {size limit reach high n : Int} (hs : size = n) (hr : reach = min limit size) (h2 : high ≤ reach) : high ≤ n := by
  subst hs; subst hr; exact Int.le_trans h2 (Int.min_le_right _ _)
theorem le_limit {size limit reach high : Int} (hr : reach = min limit size) (h2 : high ≤ reach) : high ≤ limit := by
  subst hr; exact Int.le_trans h2 (Int.min_le_left _ _)
theorem le_behind {size limit low high behind n z : Int} (hs : size = n) (hl : limit = size - behind) (h0 : 0 ≤ low) (h2 : high ≤ limit) (hz : 0 ≤ z) : behind ≤ n + (z - (high - low)) := by
  subst hs; subst hl; lia
theorem sub_one_le {x n : Int} (h : x < n + 2) : x - 1 ≤ n := by lia
theorem size_pos {size : Int} {a b : Nat} (hs : size = a + b) : 0 ≤ size := by rw [hs]; exact Int.add_nonneg (Int.natCast_nonneg _) (Int.natCast_nonneg _)
theorem k6 {S : St} {size limit reach : Int} (hsize : size = S.l.length + S.r.length) (hlim : limit = size - S.behind) (hreach : reach = min limit size) (hc : S.text.length = S.l.length + S.r.length) (hrow : (S.l ++ S.r).length = S.l.length + S.r.length) :
    reach = min (↑(PySem.Txt.join (Str.ofString "") (S.l ++ S.r)).length - S.behind) ↑(S.l ++ S.r).length := by
  rw [hreach, hlim, hsize, show ((PySem.Txt.join (Str.ofString "") (S.l ++ S.r)).length : Int) = _ from congrArg Nat.cast hc, hrow, Int.natCast_add]
noncomputable def if_bra : Stmt := atS br1 4
theorem if_bra_spec {w : World} {mean : ExcName → Option Value} {mg mb m : Str → Option Value} {h₀ : Heap} {L fa : Addr} {ccd : Value} {s : Shared} {E : Value → Shared → Prop} {Q : Flow → Shared → Prop} {news : Led} {b lo gr sz : Int} {tb tl tg ts : Tok}
    (B : Below callerA h₀ [] h₀) (T : Top hd.view_39 (looseW hd.view_39 []) mean mg mb h₀)
    (F : Fr h₀ L s.heap (upds [(Str.ofString "bra", .int b tb), (Str.ofString "low", .int lo tl), (Str.ofString "grew", .int gr tg), (Str.ofString "size", .int sz ts)] m)) (N : News h₀ L s.heap news) (X : (hd.heap_39 w.params).In h₀)
    (hQ : ∀ h' tk' t, Fr h₀ L h' (fun y => if y = Str.ofString "bra" then some (.int (if lo ≤ b then gr - (sz - b) else b) t) else upds [(Str.ofString "bra", .int b tb), (Str.ofString "low", .int lo tl), (Str.ofString "grew", .int gr tg), (Str.ofString "size", .int sz ts)] m y) → News h₀ L h' news → Q .next { s with heap := h', toks := tk' }) :
    wpAny (model Challenge.rw_is0007_01.row.prog w) (callerA.deeper (lawEnv L fa ccd)) (exec if_bra (lawEnv L fa ccd)) Q E s := by
  revert X
  w_top off
  k_fill
  intro X
  have hs := (by (conv => lhs; whnf) : lawScope = _)
  have hb := (by (conv => lhs; whnf) : if_bra = _)
  unfold lawEnv
  rw [hs, hb]
  clear hs hb
  k_steps
  · exact hQ _ _ _ (by rw [if_pos (by assumption)]; assumption) (by assumption)
  · exact hQ _ _ tb (by rw [if_neg (by assumption)]; exact frUpds (bs := [(Str.ofString "bra", .int b tb)]) (by assumption) ⟨rfl, trivial⟩) (by assumption)
noncomputable def if_ket : Stmt := atS br1 5
theorem if_ket_spec {w : World} {mean : ExcName → Option Value} {mg mb m : Str → Option Value} {h₀ : Heap} {L fa : Addr} {ccd : Value} {s : Shared} {E : Value → Shared → Prop} {Q : Flow → Shared → Prop} {news : Led} {b lo gr sz : Int} {tb tl tg ts : Tok}
    (B : Below callerA h₀ [] h₀) (T : Top hd.view_39 (looseW hd.view_39 []) mean mg mb h₀)
    (F : Fr h₀ L s.heap (upds [(Str.ofString "ket", .int b tb), (Str.ofString "low", .int lo tl), (Str.ofString "grew", .int gr tg), (Str.ofString "size", .int sz ts)] m)) (N : News h₀ L s.heap news) (X : (hd.heap_39 w.params).In h₀)
    (hQ : ∀ h' tk' t, Fr h₀ L h' (fun y => if y = Str.ofString "ket" then some (.int (if lo ≤ b then gr - (sz - b) else b) t) else upds [(Str.ofString "ket", .int b tb), (Str.ofString "low", .int lo tl), (Str.ofString "grew", .int gr tg), (Str.ofString "size", .int sz ts)] m y) → News h₀ L h' news → Q .next { s with heap := h', toks := tk' }) :
    wpAny (model Challenge.rw_is0007_01.row.prog w) (callerA.deeper (lawEnv L fa ccd)) (exec if_ket (lawEnv L fa ccd)) Q E s := by
  revert X
  w_top off
  k_fill
  intro X
  have hs := (by (conv => lhs; whnf) : lawScope = _)
  have hb := (by (conv => lhs; whnf) : if_ket = _)
  unfold lawEnv
  rw [hs, hb]
  clear hs hb
  k_steps
  · exact hQ _ _ _ (by rw [if_pos (by assumption)]; assumption) (by assumption)
  · exact hQ _ _ tb (by rw [if_neg (by assumption)]; exact frUpds (bs := [(Str.ofString "ket", .int b tb)]) (by assumption) ⟨rfl, trivial⟩) (by assumption)
theorem words_Ka : True := by
  k_with_none
  k_with "eval Name" => ((k_here; k_dflt (refine' nameX_L ?zF9 ?zv9 ?_ ?za9 ?zb9; (case zF9 => k_asm); (case za9 => exact Eq.refl _); (case zb9 => exact Eq.refl (some _)); (case zv9 => exact Eq.refl (some _)); k_whole)))
  k_with "storeName" => ((k_here; k_dflt (refine' storeX_L ?zF9 ?zN9 ?_ ?za9 ?zb9; (case zF9 => k_asm); (case zN9 => k_asm); (case za9 => exact Eq.refl _); (case zb9 => exact Eq.refl (some _)); k_whole; intro h' F' N'; refine useF ?_ F'; clear F'; intro m9 F9; (try k_sweep))))
  k_with "execs cons" => ((k_here; (try dsimp only); refine tidy ?_; intro t9; (try k_fold); refine wpAny_execs_cons ?_))
  k_with "mem" => (first | ktr_member | exact List.Mem.head _ | (refine' mtail ?_; k_mem))
  k_with "all" => (first | assumption | exact List.forall_mem_nil _ | (refine' List.forall_mem_cons.mpr ⟨?za9, ?zb9⟩; (case za9 => first | (refine Apart.ne ?_; with_reducible assumption) | k_ne | (exact ne_of_cls (by k_asm) (by k_mem) (by k_mem) (by first | (intro e9; cases e9; done) | (intro e9; injection e9 with e9; exact absurd e9 (by decide))))); (case zb9 => k_all)))
  k_with "upd" => (first | with_reducible assumption | (refine' Spl.head ?za9; (case za9 => k_all)) | (refine' Spl.tail ?za9 ?zb9; (case za9 => first | (refine Apart.ne ?_; with_reducible assumption) | k_ne | (exact ne_of_cls (by k_asm) (by k_mem) (by k_mem) (by first | (intro e9; cases e9; done) | (intro e9; injection e9 with e9; exact absurd e9 (by decide))))); (case zb9 => k_upd)) | (refine' Upd.head ?za9; (case za9 => k_all)) | (refine' Upd.tail ?za9 ?zb9; (case za9 => first | (refine Apart.ne ?_; with_reducible assumption) | k_ne | (exact ne_of_cls (by k_asm) (by k_mem) (by k_mem) (by first | (intro e9; cases e9; done) | (intro e9; injection e9 with e9; exact absurd e9 (by decide))))); (case zb9 => k_upd)))
  k_with "subscriptTail Name Slice ref ref" => ((k_here; (with_reducible show wpAny _ _ (subscriptTail _ (PySem.Expr.Slice _ _ none _) (Value.ref _) (Value.ref _)) _ _ _); k_dflt (refine' sl_slice ?zF9 ?zN9 ?zl9 ?zp9 ?zq9 ?zi9 ?zz9 ?_ ?zs9 ?zt9; (case zF9 => k_asm); (case zN9 => k_asm); (case zl9 => k_mem); (case zp9 => kmk_part); (case zq9 => kmk_part); (case zi9 => with_reducible assumption); (case zz9 => first | assumption | lia | ((try simp only [List.length_append, List.length_cons, List.length_nil, signs_length]); lia) | ((try simp only [List.length_append, List.length_cons, List.length_nil, signs_length] at *); lia)); (case zs9 => with_unfolding_all rfl); (case zt9 => kmk_pure)); intro D' ws' h' F' N' l1 hI' hP'; (try k_lt l1); (try k_sweep); (try dsimp only)))
  k_with "binaryOp Add ref ref" => ((k_here; (with_reducible show wpAny _ _ (binaryOp _ (Value.ref _) (Value.ref _)) _ _ _); k_dflt (refine' sl_add ?zF9 ?zN9 ?zl9 ?zb9 ?zi9 ?zj9 ?zz9 ?_; (case zF9 => k_asm); (case zN9 => k_asm); (case zl9 => k_mem); (case zb9 => k_mem); (case zi9 => with_reducible assumption); (case zj9 => with_reducible assumption); (case zz9 => first | assumption | lia | ((try simp only [List.length_append, List.length_cons, List.length_nil, signs_length]); lia) | ((try simp only [List.length_append, List.length_cons, List.length_nil, signs_length] at *); lia))); intro D' ws' h' F' N' l1 hI'; (try k_lt l1); (try k_sweep); (try dsimp only)))
  k_with "call builtin:len" => ((k_here; (with_reducible show wpAny _ _ (call (Value.builtin "len") [Value.ref _]) _ _ _); k_dflt (refine' sl_len ?zN9 ?zl9 ?zi9 ?zz9 ?_; (case zN9 => k_asm); (case zl9 => k_mem); (case zi9 => first | with_reducible assumption | exact .nil); (case zz9 => first | assumption | lia | ((try simp only [List.length_append, List.length_cons, List.length_nil, signs_length]); lia) | ((try simp only [List.length_append, List.length_cons, List.length_nil, signs_length] at *); lia)))))
  k_with "call builtin:str.join" => ((k_here; (with_reducible show wpAny _ _ (call (Value.builtin _) [Value.str _ _, Value.ref _]) _ _ _); k_dflt (refine' sl_join ?zN9 ?zl9 ?zi9 ?zo9 ?zz9 ?_; (case zN9 => k_asm); (case zl9 => k_mem); (case zi9 => with_reducible assumption); (case zo9 => first | assumption | (refine Ones.app ?_ ?_ <;> assumption) | (refine Ones.pick (Ones.app ?_ ?_) _ _ <;> assumption)); (case zz9 => first | assumption | lia | ((try simp only [List.length_append, List.length_cons, List.length_nil, signs_length]); lia) | ((try simp only [List.length_append, List.length_cons, List.length_nil, signs_length] at *); lia))); intro _ _ _))
  k_with "call ref" => ((k_here; (with_reducible show wpAny _ _ (call (Value.ref 147) _) _ _ _); k_dflt (refine' replace_s_spec ?zS9 ?zx9 ?zhc9 ?zhz9 _ _ _ _ _ _ _ _ _ _ _ _ _ _ _ _ _ _ _ _ ?zB9 ?zF9 ?zX9 ?zN9 ?zT9 ?zk9 ?zd9 ?zu9 ?_; (case zB9 => k_asm); (case zF9 => k_asm); (case zX9 => k_asm); (case zN9 => k_asm); (case zT9 => k_asm); (case zk9 => first | exact rfl | assumption); (case zd9 => ktr_room); (case zu9 => ktr_units); (case zx9 => k_mem); (case zS9 => k_upd); (case zhc9 => (first | assumption | (dsimp only; lia) | lia)); (case zhz9 => (first | assumption | (dsimp only; lia) | lia)); intro v9 n9 h9 tk9 hR F9 N9; obtain ⟨τ9, t9, e9⟩ := hR; subst e9; (try simp only [List.cons_append, List.nil_append] at N9); (try dsimp only); (try k_sweep); (try k_fold))))
  k_with "call ref" => ((k_here; (with_reducible show wpAny _ _ (call (Value.ref 168) _) _ _ _); k_dflt (refine' insert_spec ?zS9 ?zx9 ?zhc9 ?zhz9 _ _ _ _ _ _ _ _ _ _ _ _ _ _ _ _ _ _ _ _ ?zB9 ?zF9 ?zX9 ?zN9 ?zT9 ?zk9 ?zd9 ?zu9 ?_; (case zB9 => k_asm); (case zF9 => k_asm); (case zX9 => k_asm); (case zN9 => k_asm); (case zT9 => k_asm); (case zk9 => first | exact rfl | assumption); (case zd9 => ktr_room); (case zu9 => ktr_units); (case zx9 => k_mem); (case zS9 => k_upd); (case zhc9 => (first | assumption | (dsimp only; lia) | lia)); (case zhz9 => (first | assumption | (dsimp only; lia) | lia)); intro v9 n9 h9 tk9 hR F9 N9; obtain ⟨τ9, e9⟩ := hR; subst e9; (try simp only [List.cons_append, List.nil_append] at N9); (try dsimp only); (try k_sweep); (try k_fold))))
  k_with "call ref" => ((k_here; (with_reducible show wpAny _ _ (call (Value.ref 56) _) _ _ _); k_dflt (refine' copy_from_spec ?zS9 ?zx9 ?zy9 ?zyd9 ?zhn9 _ _ _ _ _ _ _ _ _ _ _ _ _ _ _ _ _ _ _ _ ?zB9 ?zF9 ?zX9 ?zN9 ?zT9 ?zk9 ?zd9 ?zu9 ?_; (case zB9 => k_asm); (case zF9 => k_asm); (case zX9 => k_asm); (case zN9 => k_asm); (case zT9 => k_asm); (case zk9 => first | exact rfl | assumption); (case zd9 => ktr_room); (case zu9 => ktr_units); (case zx9 => k_mem); (case zS9 => k_upd); (case zy9 => k_mem); (case zyd9 => k_mem); (case zhn9 => (refine Apart.ne ?_; assumption)); intro v9 n9 h9 tk9 hR F9 N9; obtain ⟨τ9, e9⟩ := hR; subst e9; (try simp only [List.cons_append, List.nil_append] at N9); (try dsimp only); (try k_sweep); (try k_fold))))
  k_with "call ref" => ((k_here; (with_reducible show wpAny _ _ (call (Value.ref 42) _) _ _ _); k_dflt (refine' set_current_spec ?zS9 ?zx9 ?zhc9 _ _ _ _ _ _ _ _ _ _ _ _ _ _ _ _ _ _ _ _ ?zB9 ?zF9 ?zX9 ?zN9 ?zT9 ?zk9 ?zd9 ?zu9 ?_; (case zB9 => k_asm); (case zF9 => k_asm); (case zX9 => k_asm); (case zN9 => k_asm); (case zT9 => k_asm); (case zk9 => first | exact rfl | assumption); (case zd9 => ktr_room); (case zu9 => ktr_units); (case zx9 => k_mem); (case zS9 => k_upd); (case zhc9 => (first | assumption | (dsimp only; lia) | lia)); intro v9 n9 h9 tk9 hR F9 N9; obtain ⟨τ9, e9⟩ := hR; subst e9; (try simp only [List.cons_append, List.nil_append] at N9); (try dsimp only); (try k_sweep); (try k_fold))))
  k_with "call ref" => ((k_here; (with_reducible show wpAny _ _ (call (Value.ref 182) _) _ _ _); k_dflt (refine' assign_to_spec ?zx9 ?zy9 ?zhc9 _ _ _ _ _ _ _ _ _ _ _ _ _ _ _ _ _ _ _ _ ?zB9 ?zF9 ?zX9 ?zN9 ?zT9 ?zk9 ?zd9 ?zu9 ?_; (case zB9 => k_asm); (case zF9 => k_asm); (case zX9 => k_asm); (case zN9 => k_asm); (case zT9 => k_asm); (case zk9 => first | exact rfl | assumption); (case zd9 => ktr_room); (case zu9 => ktr_units); (case zx9 => k_mem); (case zy9 => k_mem); (case zhc9 => (first | assumption | (dsimp only; lia) | lia)); intro v9 n9 h9 tk9 hR F9 N9; obtain ⟨⟨t9, e9⟩, e9'⟩ := hR; subst e9; subst e9'; (try simp only [List.cons_append, List.nil_append] at N9); (try dsimp only); (try k_sweep); (try k_fold))))
  k_with "call ref" => ((k_here; (with_reducible show wpAny _ _ (call (Value.ref 213) _) _ _ _); k_dflt (refine' fresh_spec ?zhz9 _ _ _ _ _ _ _ _ _ _ _ _ _ _ _ _ _ _ _ _ ?zB9 ?zF9 ?zX9 ?zN9 ?zT9 ?zk9 ?zd9 ?zu9 ?_; (case zB9 => k_asm); (case zF9 => k_asm); (case zX9 => k_asm); (case zN9 => k_asm); (case zT9 => k_asm); (case zk9 => first | exact rfl | assumption); (case zd9 => ktr_room); (case zu9 => ktr_units); (case zhz9 => (first | assumption | (dsimp only; lia) | lia)); intro v9 n9 h9 tk9 hR F9 N9; obtain ⟨a9, l9, r9, vr9, kr9, t91, t92, t93, t94, k9, i9⟩ := hR; (try simp only [List.cons_append, List.nil_append] at N9); (try dsimp only); (try k_sweep); (try k_fold))))
  k_with "call ref" => ((k_here; (with_reducible show wpAny _ _ (call (Value.ref 220) _) _ _ _); k_dflt (refine' size_spec ?zx9 ?zl9 ?zr9 ?zil9 ?zir9 ?zh19 ?zh29 _ _ _ _ _ _ _ _ _ _ _ _ _ _ _ _ _ _ _ _ ?zB9 ?zF9 ?zX9 ?zN9 ?zT9 ?zk9 ?zd9 ?zu9 ?_; (case zB9 => k_asm); (case zF9 => k_asm); (case zX9 => k_asm); (case zN9 => k_asm); (case zT9 => k_asm); (case zk9 => first | exact rfl | assumption); (case zd9 => ktr_room); (case zu9 => ktr_units); (case zx9 => k_mem); (case zl9 => k_mem); (case zr9 => k_mem); (case zil9 => assumption); (case zir9 => assumption); (case zh19 => (first | assumption | (dsimp only; lia) | lia)); (case zh29 => (first | assumption | (dsimp only; lia) | lia)); intro v9 n9 h9 tk9 hR F9 N9; obtain ⟨⟨t9, e9⟩, e9'⟩ := hR; subst e9; subst e9'; (try simp only [List.cons_append, List.nil_append] at N9); (try dsimp only); (try k_sweep); (try k_fold))))
  k_with "call ref" => ((k_here; (with_reducible show wpAny _ _ (call (Value.ref 234) _) _ _ _); k_dflt (refine' cut_spec ?zx9 ?zl9 ?zr9 ?zg9 ?zil9 ?zir9 ?zig9 ?zh19 ?zh29 ?zh39 _ _ _ _ _ _ _ _ _ _ _ _ _ _ _ _ _ _ _ _ ?zB9 ?zF9 ?zX9 ?zN9 ?zT9 ?zk9 ?zd9 ?zu9 ?_; (case zB9 => k_asm); (case zF9 => k_asm); (case zX9 => k_asm); (case zN9 => k_asm); (case zT9 => k_asm); (case zk9 => first | exact rfl | assumption); (case zd9 => ktr_room); (case zu9 => ktr_units); (case zx9 => k_mem); (case zl9 => k_mem); (case zr9 => k_mem); (case zg9 => k_mem); (case zil9 => assumption); (case zir9 => assumption); (case zig9 => first | assumption | exact .nil); (case zh19 => (first | assumption | (dsimp only; lia) | lia)); (case zh29 => (first | assumption | (dsimp only; lia) | lia)); (case zh39 => (first | assumption | ((try simp only [signs_length, List.length_nil]); lia) | decide)); intro v9 n9 h9 tk9 hR F9 N9; obtain ⟨a9, l9, r9, vl9, vr9, kl9, kr9, t91, t92, t93, t94, k9, S9, hS9, hz9, i9, j9⟩ := hR; (try simp only [List.cons_append, List.nil_append] at N9); (try dsimp only); (try k_sweep); (try k_fold))))
  k_with "call ref" => ((k_here; (with_reducible show wpAny _ _ (call (Value.ref 241) _) _ _ _); k_dflt (refine' lslice_from_spec ?zS9 ?zx9 ?zhc9 ?zhz9 ?zhh9 _ _ _ _ _ _ _ _ _ _ _ _ _ _ _ _ _ _ ?zB9 ?zF9 ?zX9 ?zN9 ?zT9 ?zX29 ?zT29 ?zk9 ?zd9 ?zu9 ?_; (case zB9 => k_asm); (case zF9 => k_asm); (case zX9 => k_asm); (case zN9 => k_asm); (case zT9 => k_asm); (case zX29 => k_asm); (case zT29 => k_asm); (case zk9 => first | exact rfl | assumption); (case zd9 => ktr_room); (case zu9 => ktr_units); (case zx9 => k_mem); (case zS9 => k_upd); (case zhc9 => (first | assumption | (dsimp only; lia) | lia)); (case zhz9 => (first | assumption | (dsimp only; lia) | lia)); (case zhh9 => assumption); intro v9 n9 h9 tk9 hR F9 N9; obtain ⟨a9, k9, y9, τ9, ey9⟩ := hR; (try subst ey9); (try simp only [List.cons_append, List.nil_append] at N9); (try dsimp only); (try k_sweep); (try k_fold))))
  k_with "call ref" => ((k_here; (with_reducible show wpAny _ _ (call (Value.ref 241) _) _ _ _); k_dflt (refine' lslice_from_bad ?zS9 ?zx9 ?zhc9 ?zhz9 ?zhh9 _ _ _ _ _ _ _ _ _ _ _ _ _ _ _ _ _ _ ?zB9 ?zF9 ?zX9 ?zN9 ?zT9 ?zX29 ?zT29 ?zk9 ?zd9 ?zu9 ?_; (case zB9 => k_asm); (case zF9 => k_asm); (case zX9 => k_asm); (case zN9 => k_asm); (case zT9 => k_asm); (case zX29 => k_asm); (case zT29 => k_asm); (case zk9 => first | exact rfl | assumption); (case zd9 => ktr_room); (case zu9 => ktr_units); (case zx9 => k_mem); (case zS9 => k_upd); (case zhc9 => (first | assumption | (dsimp only; lia) | lia)); (case zhz9 => (first | assumption | (dsimp only; lia) | lia)); (case zhh9 => assumption); intro v9 n9 h9 tk9 hR F9 N9; obtain ⟨a9, k9, y9, τ9, ey9⟩ := hR; (try subst ey9); (try simp only [List.cons_append, List.nil_append] at N9); (try dsimp only); (try k_sweep); (try k_fold))))
  k_with "call ref" => ((k_here; (with_reducible show wpAny _ _ (call (Value.ref 241) _) _ _ _); k_dflt (refine' lslice_del_spec ?zS9 ?zx9 ?zhc9 ?zhz9 ?zhh9 _ _ _ _ _ _ _ _ _ _ _ _ _ _ _ _ _ _ ?zB9 ?zF9 ?zX9 ?zN9 ?zT9 ?zX29 ?zT29 ?zk9 ?zd9 ?zu9 ?_; (case zB9 => k_asm); (case zF9 => k_asm); (case zX9 => k_asm); (case zN9 => k_asm); (case zT9 => k_asm); (case zX29 => k_asm); (case zT29 => k_asm); (case zk9 => first | exact rfl | assumption); (case zd9 => ktr_room); (case zu9 => ktr_units); (case zx9 => k_mem); (case zS9 => k_upd); (case zhc9 => (first | assumption | (dsimp only; lia) | lia)); (case zhz9 => (first | assumption | (dsimp only; lia) | lia)); (case zhh9 => assumption); intro v9 n9 h9 tk9 hR F9 N9; obtain ⟨a9, k9, y9, τ9, ey9⟩ := hR; (try subst ey9); (try simp only [List.cons_append, List.nil_append] at N9); (try dsimp only); (try k_sweep); (try k_fold))))
  k_with "call ref" => ((k_here; (with_reducible show wpAny _ _ (call (Value.ref 241) _) _ _ _); k_dflt (refine' lslice_del_bad ?zS9 ?zx9 ?zhc9 ?zhz9 ?zhh9 _ _ _ _ _ _ _ _ _ _ _ _ _ _ _ _ _ _ ?zB9 ?zF9 ?zX9 ?zN9 ?zT9 ?zX29 ?zT29 ?zk9 ?zd9 ?zu9 ?_; (case zB9 => k_asm); (case zF9 => k_asm); (case zX9 => k_asm); (case zN9 => k_asm); (case zT9 => k_asm); (case zX29 => k_asm); (case zT29 => k_asm); (case zk9 => first | exact rfl | assumption); (case zd9 => ktr_room); (case zu9 => ktr_units); (case zx9 => k_mem); (case zS9 => k_upd); (case zhc9 => (first | assumption | (dsimp only; lia) | lia)); (case zhz9 => (first | assumption | (dsimp only; lia) | lia)); (case zhh9 => assumption); intro v9 n9 h9 tk9 hR F9 N9; obtain ⟨a9, k9, y9, τ9, ey9⟩ := hR; (try subst ey9); (try simp only [List.cons_append, List.nil_append] at N9); (try dsimp only); (try k_sweep); (try k_fold))))
  k_with "call ref" => ((k_here; (with_reducible show wpAny _ _ (call (Value.ref 241) _) _ _ _); k_dflt (refine' lslice_to_spec ?zS9 ?zx9 ?zhc9 ?zhz9 ?zhh9 _ _ _ _ _ _ _ _ _ _ _ _ _ _ _ _ _ _ ?zB9 ?zF9 ?zX9 ?zN9 ?zT9 ?zX29 ?zT29 ?zk9 ?zd9 ?zu9 ?_; (case zB9 => k_asm); (case zF9 => k_asm); (case zX9 => k_asm); (case zN9 => k_asm); (case zT9 => k_asm); (case zX29 => k_asm); (case zT29 => k_asm); (case zk9 => first | exact rfl | assumption); (case zd9 => ktr_room); (case zu9 => ktr_units); (case zx9 => k_mem); (case zS9 => k_upd); (case zhc9 => (first | assumption | (dsimp only; lia) | lia)); (case zhz9 => (first | assumption | (dsimp only; lia) | lia)); (case zhh9 => assumption); intro v9 n9 h9 tk9 hR F9 N9; obtain ⟨a9, k9, y9, τ9, ty9, ey9⟩ := hR; subst ey9; (try simp only [List.cons_append, List.nil_append] at N9); (try dsimp only); (try k_sweep); (try k_fold))))
  k_with "call ref" => ((k_here; (with_reducible show wpAny _ _ (call (Value.ref 241) _) _ _ _); k_dflt (refine' lslice_to_bad ?zS9 ?zx9 ?zhc9 ?zhz9 ?zhh9 _ _ _ _ _ _ _ _ _ _ _ _ _ _ _ _ _ _ ?zB9 ?zF9 ?zX9 ?zN9 ?zT9 ?zX29 ?zT29 ?zk9 ?zd9 ?zu9 ?_; (case zB9 => k_asm); (case zF9 => k_asm); (case zX9 => k_asm); (case zN9 => k_asm); (case zT9 => k_asm); (case zX29 => k_asm); (case zT29 => k_asm); (case zk9 => first | exact rfl | assumption); (case zd9 => ktr_room); (case zu9 => ktr_units); (case zx9 => k_mem); (case zS9 => k_upd); (case zhc9 => (first | assumption | (dsimp only; lia) | lia)); (case zhz9 => (first | assumption | (dsimp only; lia) | lia)); (case zhh9 => assumption); intro v9 n9 h9 tk9 hR F9 N9; obtain ⟨a9, k9, y9, τ9, ey9⟩ := hR; (try subst ey9); (try simp only [List.cons_append, List.nil_append] at N9); (try dsimp only); (try k_sweep); (try k_fold))))
  k_with "subscriptTail Name Constant ref int" => ((k_here; (with_reducible show wpAny _ _ (subscriptTail _ _ (Value.ref _) (Value.int _ _)) _ _ _); k_dflt (refine' tup_item ?zN9 ?zh9 ?za9 ?zb9 ?zc9 ?zd9 ?_ ?zs9; (case zN9 => k_asm); (case zh9 => k_mem); (case za9 => decide); (case zb9 => decide); (case zc9 => rfl); (case zd9 => rfl); (case zs9 => with_unfolding_all rfl))))
  k_with "getMethod ref" => ((k_here; k_dflt (refine' method_inst ?zk19 ?zk29 ?zk39 ?zk49 ?zk59 ?zk69 ?zk79 ?_; (case zk19 => k_asm); (case zk29 => k_asm); (case zk39 => k_inst); (case zk49 => k_is); (case zk59 => k_is); (case zk69 => k_is); (case zk79 => k_get); k_whole)))
  k_with "storeName" => ((k_here; (with_reducible show wpAny _ _ (storeName _ _ (Value.bool (decide _))) _ _ _); refine stopAt ?_))
  k_with "exec If" => ((k_here; (with_reducible show wpAny _ _ (exec (Stmt.If (PySem.Expr.Compare (PySem.Expr.Name (Str.ofString "bra") _) _ _ _) _ _ _) _) _ _ _); k_dflt (refine' if_bra_spec ?zB9 ?zT9 ?zF9 ?zN9 ?zX9 ?_; (case zB9 => k_asm); (case zT9 => k_asm); (case zF9 => (refine' frUpds ?zG9 ?zH9; (case zG9 => k_asm); (case zH9 => exact ⟨Eq.refl (some _), Eq.refl (some _), Eq.refl (some _), Eq.refl (some _), trivial⟩))); (case zN9 => k_asm); (case zX9 => k_asm)); intro h' tk' t' F' N'; (try dsimp only)))
  k_with "exec If" => ((k_here; (with_reducible show wpAny _ _ (exec (Stmt.If (PySem.Expr.Compare (PySem.Expr.Name (Str.ofString "ket") _) _ _ _) _ _ _) _) _ _ _); k_dflt (refine' if_ket_spec ?zB9 ?zT9 ?zF9 ?zN9 ?zX9 ?_; (case zB9 => k_asm); (case zT9 => k_asm); (case zF9 => (refine' frUpds ?zG9 ?zH9; (case zG9 => k_asm); (case zH9 => exact ⟨Eq.refl (some _), Eq.refl (some _), Eq.refl (some _), Eq.refl (some _), trivial⟩))); (case zN9 => k_asm); (case zX9 => k_asm)); intro h' tk' t' F' N'; (try dsimp only)))
  trivial
theorem kind0 {w : World} {ns : List Int} {j : Nat} {mean : ExcName → Option Value} {mg mb m : Str → Option Value} {h₀ : Heap} {L I fa : Addr} {ccd : Value} {i1 i2 i3 : Int} {s : Shared} {E : Value → Shared → Prop}
    {xT dT xO dO a l r k kl kr nl sg rw : Addr} {rest : Led} {vl vr wl wr nv vs vw : List Value} {κ τ κ' τ' : Keys} {t1 t2 t3 t4 u1 u2 u3 u4 q2 q3 q4 q7 q8 : Tok} {c0 c1 c2 c3 c4 c5 c6 c7 c8 : Nat} {S Sk : St} {z : Str} { size limit reach low high : Int}
    (B : Below callerA h₀ [] h₀) (T : Top hd.view_39 (looseW hd.view_39 []) mean mg mb h₀)
    (F : Fr h₀ L s.heap (upds [(Str.ofString "tool", .ref xT), (Str.ofString "other", .ref xO), (Str.ofString "mine", .ref a), (Str.ofString "kept", .ref k), (Str.ofString "numbers", .ref nl), (Str.ofString "kind", .int 0 q2), (Str.ofString "text", .str z q3), (Str.ofString "signs", .ref sg), (Str.ofString "size", .int size q4), (Str.ofString "low", .int low q7), (Str.ofString "high", .int high q8), (Str.ofString "told", .none), (Str.ofString "due", .none)] m))
    (N : News h₀ L s.heap ((dT, stem w κ τ (toolOf S)) :: (dO, stem w κ' τ' (toolOf Sk)) :: rest))
    (il : StrsAre vl S.l) (ir : StrsAre vr S.r) (jl : StrsAre wl Sk.l) (jr : StrsAre wr Sk.r) (iN : IntsAre nv ns) (is : StrsAre vs (signs z)) (iw : StrsAre vw (S.l ++ S.r)) (g : Good j S) (gk : Good j Sk) (hne : Apart dO dT) (hj : j ≤ 15) (hz : z.length ≤ 4)
    (m0 : (I, krsIt i1 i2 i3) ∈ rest) (m1 : (xT, instObj 199 dT) ∈ rest) (m2 : (xO, instObj 199 dO) ∈ rest) (m3 : (a, tupO [.ref l, .ref r, .int S.behind t1, .int S.back t2, .int S.bra t3, .int S.ket t4] c0) ∈ rest) (m4 : (l, listOf (List.toArray vl) c1) ∈ rest) (m5 : (r, listOf (List.toArray vr) c2) ∈ rest) (m6 : (k, tupO [.ref kl, .ref kr, .int Sk.behind u1, .int Sk.back u2, .int Sk.bra u3, .int Sk.ket u4] c3) ∈ rest) (m7 : (kl, listOf (List.toArray wl) c4) ∈ rest) (m8 : (kr, listOf (List.toArray wr) c5) ∈ rest) (m9 : (nl, listOf (List.toArray nv) c6) ∈ rest) (m10 : (sg, listOf (List.toArray vs) c7) ∈ rest) (m11 : (rw, listOf (List.toArray vw) c8) ∈ rest) (hrT : ∀ p ∈ rest, p.1 ≠ dT) (hrO : ∀ p ∈ rest, p.1 ≠ dO)
    (hsize : size = S.l.length + S.r.length) (hlim : limit = size - S.behind) (hreach : reach = min limit size) (h0 : 0 ≤ low) (h1 : low ≤ high) (h2 : high ≤ reach) (X : (hd.heap_39 w.params).In h₀) :
    wpAny (model Challenge.rw_is0007_01.row.prog w) (callerA.deeper (lawEnv L fa ccd)) (exec chain (lawEnv L fa ccd)) (fun f s' => f = .next ∧ Mid w ns (j + 1) h₀ L I (krsIt i1 i2 i3) s s') E s := by
  revert X
  w_top off
  k_fill
  intro X
  have hs := (by (conv => lhs; whnf) : lawScope = _)
  have hb := (by (conv => lhs; whnf) : chain = _)
  unfold lawEnv
  rw [hs, hb]
  clear hs hb
  rename Fr _ _ _ _ => F8
  refine useF ?_ F8; clear F8; intro m9 F8
  have g1 := g.ol
  have g2 := g.or
  have g3 := g.len
  have hc : S.text.length = S.l.length + S.r.length := by rw [join_len (g1.app g2), List.length_append]
  have hrow : (S.l ++ S.r).length = S.l.length + S.r.length := List.length_append
  have gk3 := gk.len
  have hsg : (signs z).length = z.length := signs_length z
  have hne' : Apart dT dO := hne.symm
  have hck : Sk.text.length = Sk.l.length + Sk.r.length := by rw [join_len (gk.ol.app gk.or), List.length_append]
  k_steps
  rename _ = St.cut _ _ _ _ => hS9
  refine Mid.mk' (frUpds (by k_asm) ⟨Eq.refl (some _), Eq.refl (some _), Eq.refl (some _), Eq.refl (some _), Eq.refl (some _), Eq.refl (some _), Eq.refl (some _), trivial⟩) (cb_drop (by assumption) (List.forall_mem_cons.mpr ⟨by k_mem, (List.forall_mem_cons.mpr ⟨by k_mem, (List.forall_mem_cons.mpr ⟨by k_mem, (List.forall_mem_cons.mpr ⟨by k_mem, (List.forall_mem_cons.mpr ⟨by k_mem, (List.forall_mem_cons.mpr ⟨by k_mem, (List.forall_mem_cons.mpr ⟨by k_mem, (List.forall_mem_cons.mpr ⟨by k_mem, (List.forall_mem_cons.mpr ⟨by k_mem, (List.forall_mem_cons.mpr ⟨by k_mem, (List.forall_mem_cons.mpr ⟨by k_mem, (List.forall_mem_cons.mpr ⟨by k_mem, List.forall_mem_nil _⟩)⟩)⟩)⟩)⟩)⟩)⟩)⟩)⟩)⟩)⟩)⟩)) (by first | assumption | exact .nil) (by assumption) (by assumption) (by assumption) (by assumption) (by assumption) ?_ ?_ ?_ ?_ ?_
  · exact same_int (told0 hS9 hsize h0 h1 (le_size hsize hreach h2))
  · exact ⟨_, _, congrArg (stem w _ _) (law0 g1 g2 hS9 h0 h1 (le_size hsize hreach h2))⟩
  · exact ⟨_, _, rfl⟩
  · exact good0 g hS9 hz h0 h1 (le_size hsize hreach h2) (le_behind hsize hlim h0 (le_limit hreach h2) (Int.natCast_nonneg _))
  · exact gk.up
theorem kind1 {w : World} {ns : List Int} {j : Nat} {mean : ExcName → Option Value} {mg mb m : Str → Option Value} {h₀ : Heap} {L I fa : Addr} {ccd : Value} {i1 i2 i3 : Int} {s : Shared} {E : Value → Shared → Prop}
    {xT dT xO dO a l r k kl kr nl sg rw : Addr} {rest : Led} {vl vr wl wr nv vs vw : List Value} {κ τ κ' τ' : Keys} {t1 t2 t3 t4 u1 u2 u3 u4 q2 q3 q4 q7 q8 : Tok} {c0 c1 c2 c3 c4 c5 c6 c7 c8 : Nat} {S Sk : St} {z : Str} { size limit reach low high : Int}
    (B : Below callerA h₀ [] h₀) (T : Top hd.view_39 (looseW hd.view_39 []) mean mg mb h₀)
    (F : Fr h₀ L s.heap (upds [(Str.ofString "tool", .ref xT), (Str.ofString "other", .ref xO), (Str.ofString "mine", .ref a), (Str.ofString "kept", .ref k), (Str.ofString "numbers", .ref nl), (Str.ofString "kind", .int 1 q2), (Str.ofString "text", .str z q3), (Str.ofString "signs", .ref sg), (Str.ofString "behind", .int S.behind t1), (Str.ofString "back", .int S.back t2), (Str.ofString "bra", .int S.bra t3), (Str.ofString "ket", .int S.ket t4), (Str.ofString "size", .int size q4), (Str.ofString "low", .int low q7), (Str.ofString "high", .int high q8), (Str.ofString "told", .none), (Str.ofString "due", .none)] m))
    (N : News h₀ L s.heap ((dT, stem w κ τ (toolOf S)) :: (dO, stem w κ' τ' (toolOf Sk)) :: rest))
    (il : StrsAre vl S.l) (ir : StrsAre vr S.r) (jl : StrsAre wl Sk.l) (jr : StrsAre wr Sk.r) (iN : IntsAre nv ns) (is : StrsAre vs (signs z)) (iw : StrsAre vw (S.l ++ S.r)) (g : Good j S) (gk : Good j Sk) (hne : Apart dO dT) (hj : j ≤ 15) (hz : z.length ≤ 4)
    (m0 : (I, krsIt i1 i2 i3) ∈ rest) (m1 : (xT, instObj 199 dT) ∈ rest) (m2 : (xO, instObj 199 dO) ∈ rest) (m3 : (a, tupO [.ref l, .ref r, .int S.behind t1, .int S.back t2, .int S.bra t3, .int S.ket t4] c0) ∈ rest) (m4 : (l, listOf (List.toArray vl) c1) ∈ rest) (m5 : (r, listOf (List.toArray vr) c2) ∈ rest) (m6 : (k, tupO [.ref kl, .ref kr, .int Sk.behind u1, .int Sk.back u2, .int Sk.bra u3, .int Sk.ket u4] c3) ∈ rest) (m7 : (kl, listOf (List.toArray wl) c4) ∈ rest) (m8 : (kr, listOf (List.toArray wr) c5) ∈ rest) (m9 : (nl, listOf (List.toArray nv) c6) ∈ rest) (m10 : (sg, listOf (List.toArray vs) c7) ∈ rest) (m11 : (rw, listOf (List.toArray vw) c8) ∈ rest) (hrT : ∀ p ∈ rest, p.1 ≠ dT) (hrO : ∀ p ∈ rest, p.1 ≠ dO)
    (hsize : size = S.l.length + S.r.length) (hlim : limit = size - S.behind) (hreach : reach = min limit size) (h0 : 0 ≤ low) (h1 : low ≤ high) (h2 : high ≤ reach) (X : (hd.heap_39 w.params).In h₀) :
    wpAny (model Challenge.rw_is0007_01.row.prog w) (callerA.deeper (lawEnv L fa ccd)) (exec chain (lawEnv L fa ccd)) (fun f s' => f = .next ∧ Mid w ns (j + 1) h₀ L I (krsIt i1 i2 i3) s s') E s := by
  revert X
  w_top off
  k_fill
  intro X
  have hs := (by (conv => lhs; whnf) : lawScope = _)
  have hb := (by (conv => lhs; whnf) : chain = _)
  unfold lawEnv
  rw [hs, hb]
  clear hs hb
  rename Fr _ _ _ _ => F8
  refine useF ?_ F8; clear F8; intro m9 F8
  have g1 := g.ol
  have g2 := g.or
  have g3 := g.len
  have hc : S.text.length = S.l.length + S.r.length := by rw [join_len (g1.app g2), List.length_append]
  have hrow : (S.l ++ S.r).length = S.l.length + S.r.length := List.length_append
  have gk3 := gk.len
  have hsg : (signs z).length = z.length := signs_length z
  have hne' : Apart dT dO := hne.symm
  have hck : Sk.text.length = Sk.l.length + Sk.r.length := by rw [join_len (gk.ol.app gk.or), List.length_append]
  k_steps
  all_goals
    rename _ = St.cut _ _ _ _ => hS9
    refine Mid.mk' (frUpds (by k_asm) ⟨Eq.refl (some _), Eq.refl (some _), Eq.refl (some _), Eq.refl (some _), Eq.refl (some _), Eq.refl (some _), Eq.refl (some _), trivial⟩) (cb_drop (by assumption) (List.forall_mem_cons.mpr ⟨by k_mem, (List.forall_mem_cons.mpr ⟨by k_mem, (List.forall_mem_cons.mpr ⟨by k_mem, (List.forall_mem_cons.mpr ⟨by k_mem, (List.forall_mem_cons.mpr ⟨by k_mem, (List.forall_mem_cons.mpr ⟨by k_mem, (List.forall_mem_cons.mpr ⟨by k_mem, (List.forall_mem_cons.mpr ⟨by k_mem, (List.forall_mem_cons.mpr ⟨by k_mem, (List.forall_mem_cons.mpr ⟨by k_mem, (List.forall_mem_cons.mpr ⟨by k_mem, (List.forall_mem_cons.mpr ⟨by k_mem, List.forall_mem_nil _⟩)⟩)⟩)⟩)⟩)⟩)⟩)⟩)⟩)⟩)⟩)⟩)) (by first | assumption | exact .nil) (by assumption) (by assumption) (by assumption) (by assumption) (by assumption) ?_ ?_ ?_ ?_ ?_
    · exact .none
    · exact ⟨_, _, congrArg (stem w _ _) (law1 g1 g2 hS9 hsize (by first | exact h0 | lia) (by first | exact h1 | lia) (by first | exact le_size hsize hreach h2 | lia) rfl rfl)⟩
    · exact ⟨_, _, rfl⟩
    · exact good_cut g hS9 hz (by first | exact h0 | lia) (by first | exact h1 | lia) (by first | exact le_size hsize hreach h2 | lia) (by first | exact le_behind hsize hlim h0 (le_limit hreach h2) (Int.natCast_nonneg _) | (have := g.beh; lia))
    · exact gk.up
theorem kind2 {w : World} {ns : List Int} {j : Nat} {mean : ExcName → Option Value} {mg mb m : Str → Option Value} {h₀ : Heap} {L I fa : Addr} {ccd : Value} {i1 i2 i3 : Int} {s : Shared} {E : Value → Shared → Prop}
    {xT dT xO dO a l r k kl kr nl sg rw : Addr} {rest : Led} {vl vr wl wr nv vs vw : List Value} {κ τ κ' τ' : Keys} {t1 t2 t3 t4 u1 u2 u3 u4 q2 q3 q4 q7 q8 : Tok} {c0 c1 c2 c3 c4 c5 c6 c7 c8 : Nat} {S Sk : St} {z : Str} { size limit reach low high : Int}
    (B : Below callerA h₀ [] h₀) (T : Top hd.view_39 (looseW hd.view_39 []) mean mg mb h₀)
    (F : Fr h₀ L s.heap (upds [(Str.ofString "tool", .ref xT), (Str.ofString "other", .ref xO), (Str.ofString "mine", .ref a), (Str.ofString "kept", .ref k), (Str.ofString "numbers", .ref nl), (Str.ofString "kind", .int 2 q2), (Str.ofString "text", .str z q3), (Str.ofString "signs", .ref sg), (Str.ofString "left", .ref l), (Str.ofString "behind", .int S.behind t1), (Str.ofString "back", .int S.back t2), (Str.ofString "bra", .int S.bra t3), (Str.ofString "ket", .int S.ket t4), (Str.ofString "size", .int size q4), (Str.ofString "low", .int low q7), (Str.ofString "high", .int high q8), (Str.ofString "told", .none), (Str.ofString "due", .none)] m))
    (N : News h₀ L s.heap ((dT, stem w κ τ (toolOf S)) :: (dO, stem w κ' τ' (toolOf Sk)) :: rest))
    (il : StrsAre vl S.l) (ir : StrsAre vr S.r) (jl : StrsAre wl Sk.l) (jr : StrsAre wr Sk.r) (iN : IntsAre nv ns) (is : StrsAre vs (signs z)) (iw : StrsAre vw (S.l ++ S.r)) (g : Good j S) (gk : Good j Sk) (hne : Apart dO dT) (hj : j ≤ 15) (hz : z.length ≤ 4)
    (m0 : (I, krsIt i1 i2 i3) ∈ rest) (m1 : (xT, instObj 199 dT) ∈ rest) (m2 : (xO, instObj 199 dO) ∈ rest) (m3 : (a, tupO [.ref l, .ref r, .int S.behind t1, .int S.back t2, .int S.bra t3, .int S.ket t4] c0) ∈ rest) (m4 : (l, listOf (List.toArray vl) c1) ∈ rest) (m5 : (r, listOf (List.toArray vr) c2) ∈ rest) (m6 : (k, tupO [.ref kl, .ref kr, .int Sk.behind u1, .int Sk.back u2, .int Sk.bra u3, .int Sk.ket u4] c3) ∈ rest) (m7 : (kl, listOf (List.toArray wl) c4) ∈ rest) (m8 : (kr, listOf (List.toArray wr) c5) ∈ rest) (m9 : (nl, listOf (List.toArray nv) c6) ∈ rest) (m10 : (sg, listOf (List.toArray vs) c7) ∈ rest) (m11 : (rw, listOf (List.toArray vw) c8) ∈ rest) (hrT : ∀ p ∈ rest, p.1 ≠ dT) (hrO : ∀ p ∈ rest, p.1 ≠ dO)
    (hsize : size = S.l.length + S.r.length) (hlim : limit = size - S.behind) (hreach : reach = min limit size) (h0 : 0 ≤ low) (h1 : low ≤ high) (h2 : high ≤ reach) (X : (hd.heap_39 w.params).In h₀) :
    wpAny (model Challenge.rw_is0007_01.row.prog w) (callerA.deeper (lawEnv L fa ccd)) (exec chain (lawEnv L fa ccd)) (fun f s' => f = .next ∧ Mid w ns (j + 1) h₀ L I (krsIt i1 i2 i3) s s') E s := by
  revert X
  w_top off
  k_fill
  intro X
  have hs := (by (conv => lhs; whnf) : lawScope = _)
  have hb := (by (conv => lhs; whnf) : chain = _)
  unfold lawEnv
  rw [hs, hb]
  clear hs hb
  rename Fr _ _ _ _ => F8
  refine useF ?_ F8; clear F8; intro m9 F8
  have g1 := g.ol
  have g2 := g.or
  have g3 := g.len
  have hc : S.text.length = S.l.length + S.r.length := by rw [join_len (g1.app g2), List.length_append]
  have hrow : (S.l ++ S.r).length = S.l.length + S.r.length := List.length_append
  have gk3 := gk.len
  have hsg : (signs z).length = z.length := signs_length z
  have hne' : Apart dT dO := hne.symm
  have hck : Sk.text.length = Sk.l.length + Sk.r.length := by rw [join_len (gk.ol.app gk.or), List.length_append]
  k_steps
  all_goals
    rename _ = St.cut _ _ _ _ => hS9
    refine Mid.mk' (frUpds (by k_asm) ⟨Eq.refl (some _), Eq.refl (some _), Eq.refl (some _), Eq.refl (some _), Eq.refl (some _), Eq.refl (some _), Eq.refl (some _), trivial⟩) (cb_drop (by assumption) (List.forall_mem_cons.mpr ⟨by k_mem, (List.forall_mem_cons.mpr ⟨by k_mem, (List.forall_mem_cons.mpr ⟨by k_mem, (List.forall_mem_cons.mpr ⟨by k_mem, (List.forall_mem_cons.mpr ⟨by k_mem, (List.forall_mem_cons.mpr ⟨by k_mem, (List.forall_mem_cons.mpr ⟨by k_mem, (List.forall_mem_cons.mpr ⟨by k_mem, (List.forall_mem_cons.mpr ⟨by k_mem, (List.forall_mem_cons.mpr ⟨by k_mem, (List.forall_mem_cons.mpr ⟨by k_mem, (List.forall_mem_cons.mpr ⟨by k_mem, List.forall_mem_nil _⟩)⟩)⟩)⟩)⟩)⟩)⟩)⟩)⟩)⟩)⟩)⟩)) (by first | assumption | exact .nil) (by assumption) (by assumption) (by assumption) (by assumption) (by assumption) ?_ ?_ ?_ ?_ ?_
    · exact .none
    · exact ⟨_, _, congrArg (stem w _ _) (law1 g1 g2 hS9 hsize (by first | exact h0 | lia) (by first | exact h1 | lia) (by first | exact le_size hsize hreach h2 | lia) rfl rfl)⟩
    · exact ⟨_, _, rfl⟩
    · exact good_cut g hS9 hz (by first | exact h0 | lia) (by first | exact h1 | lia) (by first | exact le_size hsize hreach h2 | lia) (by first | exact le_behind hsize hlim h0 (le_limit hreach h2) (Int.natCast_nonneg _) | (have := g.beh; lia))
    · exact gk.up
theorem kind3 {w : World} {ns : List Int} {j : Nat} {mean : ExcName → Option Value} {mg mb m : Str → Option Value} {h₀ : Heap} {L I fa : Addr} {ccd : Value} {i1 i2 i3 : Int} {s : Shared} {E : Value → Shared → Prop}
    {xT dT xO dO a l r k kl kr nl sg rw : Addr} {rest : Led} {vl vr wl wr nv vs vw : List Value} {κ τ κ' τ' : Keys} {t1 t2 t3 t4 u1 u2 u3 u4 q2 q3 q4 q5 : Tok} {c0 c1 c2 c3 c4 c5 c6 c7 c8 : Nat} {S Sk : St} {z : Str} { size limit reach low high : Int}
    (B : Below callerA h₀ [] h₀) (T : Top hd.view_39 (looseW hd.view_39 []) mean mg mb h₀)
    (F : Fr h₀ L s.heap (upds [(Str.ofString "tool", .ref xT), (Str.ofString "other", .ref xO), (Str.ofString "mine", .ref a), (Str.ofString "kept", .ref k), (Str.ofString "numbers", .ref nl), (Str.ofString "kind", .int 3 q2), (Str.ofString "text", .str z q3), (Str.ofString "signs", .ref sg), (Str.ofString "behind", .int S.behind t1), (Str.ofString "back", .int S.back t2), (Str.ofString "bra", .int S.bra t3), (Str.ofString "ket", .int S.ket t4), (Str.ofString "size", .int size q4), (Str.ofString "limit", .int limit q5), (Str.ofString "told", .none), (Str.ofString "due", .none)] m))
    (N : News h₀ L s.heap ((dT, stem w κ τ (toolOf S)) :: (dO, stem w κ' τ' (toolOf Sk)) :: rest))
    (il : StrsAre vl S.l) (ir : StrsAre vr S.r) (jl : StrsAre wl Sk.l) (jr : StrsAre wr Sk.r) (iN : IntsAre nv ns) (is : StrsAre vs (signs z)) (iw : StrsAre vw (S.l ++ S.r)) (g : Good j S) (gk : Good j Sk) (hne : Apart dO dT) (hj : j ≤ 15) (hz : z.length ≤ 4)
    (m0 : (I, krsIt i1 i2 i3) ∈ rest) (m1 : (xT, instObj 199 dT) ∈ rest) (m2 : (xO, instObj 199 dO) ∈ rest) (m3 : (a, tupO [.ref l, .ref r, .int S.behind t1, .int S.back t2, .int S.bra t3, .int S.ket t4] c0) ∈ rest) (m4 : (l, listOf (List.toArray vl) c1) ∈ rest) (m5 : (r, listOf (List.toArray vr) c2) ∈ rest) (m6 : (k, tupO [.ref kl, .ref kr, .int Sk.behind u1, .int Sk.back u2, .int Sk.bra u3, .int Sk.ket u4] c3) ∈ rest) (m7 : (kl, listOf (List.toArray wl) c4) ∈ rest) (m8 : (kr, listOf (List.toArray wr) c5) ∈ rest) (m9 : (nl, listOf (List.toArray nv) c6) ∈ rest) (m10 : (sg, listOf (List.toArray vs) c7) ∈ rest) (m11 : (rw, listOf (List.toArray vw) c8) ∈ rest) (hrT : ∀ p ∈ rest, p.1 ≠ dT) (hrO : ∀ p ∈ rest, p.1 ≠ dO)
    (hsize : size = S.l.length + S.r.length) (hlim : limit = size - S.behind) (hreach : reach = min limit size) (h0 : 0 ≤ low) (h1 : low ≤ high) (h2 : high ≤ reach) (X : (hd.heap_39 w.params).In h₀) :
    wpAny (model Challenge.rw_is0007_01.row.prog w) (callerA.deeper (lawEnv L fa ccd)) (exec chain (lawEnv L fa ccd)) (fun f s' => f = .next ∧ Mid w ns (j + 1) h₀ L I (krsIt i1 i2 i3) s s') E s := by
  revert X
  w_top off
  k_fill
  intro X
  have hs := (by (conv => lhs; whnf) : lawScope = _)
  have hb := (by (conv => lhs; whnf) : chain = _)
  unfold lawEnv
  rw [hs, hb]
  clear hs hb
  rename Fr _ _ _ _ => F8
  refine useF ?_ F8; clear F8; intro m9 F8
  have g1 := g.ol
  have g2 := g.or
  have g3 := g.len
  have hc : S.text.length = S.l.length + S.r.length := by rw [join_len (g1.app g2), List.length_append]
  have hrow : (S.l ++ S.r).length = S.l.length + S.r.length := List.length_append
  have gk3 := gk.len
  have hsg : (signs z).length = z.length := signs_length z
  have hne' : Apart dT dO := hne.symm
  have hck : Sk.text.length = Sk.l.length + Sk.r.length := by rw [join_len (gk.ol.app gk.or), List.length_append]
  have hlt : limit = (S.text.length : Int) - S.behind := by rw [hlim, hsize, hc, Int.natCast_add]
  have hst : size = (S.text.length : Int) := by rw [hsize, hc, Int.natCast_add]
  k_steps
  refine StopAt.intro ?_
  rcases Classical.em (0 ≤ S.bra ∧ S.bra ≤ S.ket ∧ S.ket ≤ limit ∧ limit ≤ size) with hq | hq
  · have hok : 0 ≤ (toolOf S).bra ∧ (toolOf S).bra ≤ (toolOf S).ket ∧ (toolOf S).ket ≤ (toolOf S).limit ∧ (toolOf S).limit ≤ (toolOf S).cur.length := by
      rw [hlt, hst] at hq; exact hq
    rw [holds_true (by assumption) (by assumption) hq]
    k_steps
    rename _ = St.cut _ _ _ _ => hS9
    refine Mid.mk' (frUpds (by k_asm) ⟨Eq.refl (some _), Eq.refl (some _), Eq.refl (some _), Eq.refl (some _), Eq.refl (some _), Eq.refl (some _), Eq.refl (some _), trivial⟩) (cb_drop (by assumption) (List.forall_mem_cons.mpr ⟨by k_mem, (List.forall_mem_cons.mpr ⟨by k_mem, (List.forall_mem_cons.mpr ⟨by k_mem, (List.forall_mem_cons.mpr ⟨by k_mem, (List.forall_mem_cons.mpr ⟨by k_mem, (List.forall_mem_cons.mpr ⟨by k_mem, (List.forall_mem_cons.mpr ⟨by k_mem, (List.forall_mem_cons.mpr ⟨by k_mem, (List.forall_mem_cons.mpr ⟨by k_mem, (List.forall_mem_cons.mpr ⟨by k_mem, (List.forall_mem_cons.mpr ⟨by k_mem, (List.forall_mem_cons.mpr ⟨by k_mem, List.forall_mem_nil _⟩)⟩)⟩)⟩)⟩)⟩)⟩)⟩)⟩)⟩)⟩)⟩)) (by first | assumption | exact .nil) (by assumption) (by assumption) (by assumption) (by assumption) (by assumption) ?_ ?_ ?_ ?_ ?_
    · exact .none
    · exact ⟨_, _, congrArg (stem w _ _) (law3 g1 g2 hS9 hq.1 hq.2.1 (hsize ▸ Int.le_trans hq.2.2.1 hq.2.2.2))⟩
    · exact ⟨_, _, rfl⟩
    · exact good_cut g hS9 hz hq.1 hq.2.1 (hsize ▸ Int.le_trans hq.2.2.1 hq.2.2.2) (le_behind hsize hlim hq.1 hq.2.2.1 (Int.natCast_nonneg _))
    · exact gk.up
  · have hok : ¬ (0 ≤ (toolOf S).bra ∧ (toolOf S).bra ≤ (toolOf S).ket ∧ (toolOf S).ket ≤ (toolOf S).limit ∧ (toolOf S).limit ≤ (toolOf S).cur.length) := by
      rw [hlt, hst] at hq; exact hq
    rw [holds_false (by assumption) (by assumption) hq]
    k_steps
    refine Mid.mk' (frUpds (by k_asm) ⟨Eq.refl (some _), Eq.refl (some _), Eq.refl (some _), Eq.refl (some _), Eq.refl (some _), Eq.refl (some _), Eq.refl (some _), trivial⟩) (cb_drop (by assumption) (List.forall_mem_cons.mpr ⟨by k_mem, (List.forall_mem_cons.mpr ⟨by k_mem, (List.forall_mem_cons.mpr ⟨by k_mem, (List.forall_mem_cons.mpr ⟨by k_mem, (List.forall_mem_cons.mpr ⟨by k_mem, (List.forall_mem_cons.mpr ⟨by k_mem, (List.forall_mem_cons.mpr ⟨by k_mem, (List.forall_mem_cons.mpr ⟨by k_mem, (List.forall_mem_cons.mpr ⟨by k_mem, (List.forall_mem_cons.mpr ⟨by k_mem, (List.forall_mem_cons.mpr ⟨by k_mem, (List.forall_mem_cons.mpr ⟨by k_mem, List.forall_mem_nil _⟩)⟩)⟩)⟩)⟩)⟩)⟩)⟩)⟩)⟩)⟩)⟩)) (by first | assumption | exact .nil) (by assumption) (by assumption) (by assumption) (by assumption) (by assumption) ?_ ?_ ?_ ?_ ?_
    · exact .none
    · exact ⟨_, _, rfl⟩
    · exact ⟨_, _, rfl⟩
    · exact g.up
    · exact gk.up
theorem kind4 {w : World} {ns : List Int} {j : Nat} {mean : ExcName → Option Value} {mg mb m : Str → Option Value} {h₀ : Heap} {L I fa : Addr} {ccd : Value} {i1 i2 i3 : Int} {s : Shared} {E : Value → Shared → Prop}
    {xT dT xO dO a l r k kl kr nl sg rw : Addr} {rest : Led} {vl vr wl wr nv vs vw : List Value} {κ τ κ' τ' : Keys} {t1 t2 t3 t4 u1 u2 u3 u4 q2 q3 q4 q5 : Tok} {c0 c1 c2 c3 c4 c5 c6 c7 c8 : Nat} {S Sk : St} {z : Str} { size limit reach low high : Int}
    (B : Below callerA h₀ [] h₀) (T : Top hd.view_39 (looseW hd.view_39 []) mean mg mb h₀)
    (F : Fr h₀ L s.heap (upds [(Str.ofString "tool", .ref xT), (Str.ofString "other", .ref xO), (Str.ofString "mine", .ref a), (Str.ofString "kept", .ref k), (Str.ofString "numbers", .ref nl), (Str.ofString "kind", .int 4 q2), (Str.ofString "text", .str z q3), (Str.ofString "signs", .ref sg), (Str.ofString "behind", .int S.behind t1), (Str.ofString "back", .int S.back t2), (Str.ofString "bra", .int S.bra t3), (Str.ofString "ket", .int S.ket t4), (Str.ofString "size", .int size q4), (Str.ofString "limit", .int limit q5), (Str.ofString "told", .none), (Str.ofString "due", .none)] m))
    (N : News h₀ L s.heap ((dT, stem w κ τ (toolOf S)) :: (dO, stem w κ' τ' (toolOf Sk)) :: rest))
    (il : StrsAre vl S.l) (ir : StrsAre vr S.r) (jl : StrsAre wl Sk.l) (jr : StrsAre wr Sk.r) (iN : IntsAre nv ns) (is : StrsAre vs (signs z)) (iw : StrsAre vw (S.l ++ S.r)) (g : Good j S) (gk : Good j Sk) (hne : Apart dO dT) (hj : j ≤ 15) (hz : z.length ≤ 4)
    (m0 : (I, krsIt i1 i2 i3) ∈ rest) (m1 : (xT, instObj 199 dT) ∈ rest) (m2 : (xO, instObj 199 dO) ∈ rest) (m3 : (a, tupO [.ref l, .ref r, .int S.behind t1, .int S.back t2, .int S.bra t3, .int S.ket t4] c0) ∈ rest) (m4 : (l, listOf (List.toArray vl) c1) ∈ rest) (m5 : (r, listOf (List.toArray vr) c2) ∈ rest) (m6 : (k, tupO [.ref kl, .ref kr, .int Sk.behind u1, .int Sk.back u2, .int Sk.bra u3, .int Sk.ket u4] c3) ∈ rest) (m7 : (kl, listOf (List.toArray wl) c4) ∈ rest) (m8 : (kr, listOf (List.toArray wr) c5) ∈ rest) (m9 : (nl, listOf (List.toArray nv) c6) ∈ rest) (m10 : (sg, listOf (List.toArray vs) c7) ∈ rest) (m11 : (rw, listOf (List.toArray vw) c8) ∈ rest) (hrT : ∀ p ∈ rest, p.1 ≠ dT) (hrO : ∀ p ∈ rest, p.1 ≠ dO)
    (hsize : size = S.l.length + S.r.length) (hlim : limit = size - S.behind) (hreach : reach = min limit size) (h0 : 0 ≤ low) (h1 : low ≤ high) (h2 : high ≤ reach) (X : (hd.heap_39 w.params).In h₀) :
    wpAny (model Challenge.rw_is0007_01.row.prog w) (callerA.deeper (lawEnv L fa ccd)) (exec chain (lawEnv L fa ccd)) (fun f s' => f = .next ∧ Mid w ns (j + 1) h₀ L I (krsIt i1 i2 i3) s s') E s := by
  revert X
  w_top off
  k_fill
  intro X
  have hs := (by (conv => lhs; whnf) : lawScope = _)
  have hb := (by (conv => lhs; whnf) : chain = _)
  unfold lawEnv
  rw [hs, hb]
  clear hs hb
  rename Fr _ _ _ _ => F8
  refine useF ?_ F8; clear F8; intro m9 F8
  have g1 := g.ol
  have g2 := g.or
  have g3 := g.len
  have hc : S.text.length = S.l.length + S.r.length := by rw [join_len (g1.app g2), List.length_append]
  have hrow : (S.l ++ S.r).length = S.l.length + S.r.length := List.length_append
  have gk3 := gk.len
  have hsg : (signs z).length = z.length := signs_length z
  have hne' : Apart dT dO := hne.symm
  have hck : Sk.text.length = Sk.l.length + Sk.r.length := by rw [join_len (gk.ol.app gk.or), List.length_append]
  have hlt : limit = (S.text.length : Int) - S.behind := by rw [hlim, hsize, hc, Int.natCast_add]
  have hst : size = (S.text.length : Int) := by rw [hsize, hc, Int.natCast_add]
  k_steps
  refine StopAt.intro ?_
  rcases Classical.em (0 ≤ S.bra ∧ S.bra ≤ S.ket ∧ S.ket ≤ limit ∧ limit ≤ size) with hq | hq
  · have hok : 0 ≤ (toolOf S).bra ∧ (toolOf S).bra ≤ (toolOf S).ket ∧ (toolOf S).ket ≤ (toolOf S).limit ∧ (toolOf S).limit ≤ (toolOf S).cur.length := by
      rw [hlt, hst] at hq; exact hq
    rw [holds_true (by assumption) (by assumption) hq]
    k_steps
    rename _ = St.cut _ _ _ _ => hS9
    refine Mid.mk' (frUpds (by k_asm) ⟨Eq.refl (some _), Eq.refl (some _), Eq.refl (some _), Eq.refl (some _), Eq.refl (some _), Eq.refl (some _), Eq.refl (some _), trivial⟩) (cb_drop (by assumption) (List.forall_mem_cons.mpr ⟨by k_mem, (List.forall_mem_cons.mpr ⟨by k_mem, (List.forall_mem_cons.mpr ⟨by k_mem, (List.forall_mem_cons.mpr ⟨by k_mem, (List.forall_mem_cons.mpr ⟨by k_mem, (List.forall_mem_cons.mpr ⟨by k_mem, (List.forall_mem_cons.mpr ⟨by k_mem, (List.forall_mem_cons.mpr ⟨by k_mem, (List.forall_mem_cons.mpr ⟨by k_mem, (List.forall_mem_cons.mpr ⟨by k_mem, (List.forall_mem_cons.mpr ⟨by k_mem, (List.forall_mem_cons.mpr ⟨by k_mem, List.forall_mem_nil _⟩)⟩)⟩)⟩)⟩)⟩)⟩)⟩)⟩)⟩)⟩)⟩)) (by first | assumption | exact .nil) (by assumption) (by assumption) (by assumption) (by assumption) (by assumption) ?_ ?_ ?_ ?_ ?_
    · exact .none
    · exact ⟨_, _, congrArg (stem w _ _) (law4 g1 g2 hS9 hq.1 hq.2.1 (hsize ▸ Int.le_trans hq.2.2.1 hq.2.2.2))⟩
    · exact ⟨_, _, rfl⟩
    · exact good4 g hS9 hq.1 hq.2.1 (hsize ▸ Int.le_trans hq.2.2.1 hq.2.2.2) (le_behind hsize hlim hq.1 hq.2.2.1 (Int.le_refl 0))
    · exact gk.up
  · have hok : ¬ (0 ≤ (toolOf S).bra ∧ (toolOf S).bra ≤ (toolOf S).ket ∧ (toolOf S).ket ≤ (toolOf S).limit ∧ (toolOf S).limit ≤ (toolOf S).cur.length) := by
      rw [hlt, hst] at hq; exact hq
    rw [holds_false (by assumption) (by assumption) hq]
    k_steps
    refine Mid.mk' (frUpds (by k_asm) ⟨Eq.refl (some _), Eq.refl (some _), Eq.refl (some _), Eq.refl (some _), Eq.refl (some _), Eq.refl (some _), Eq.refl (some _), trivial⟩) (cb_drop (by assumption) (List.forall_mem_cons.mpr ⟨by k_mem, (List.forall_mem_cons.mpr ⟨by k_mem, (List.forall_mem_cons.mpr ⟨by k_mem, (List.forall_mem_cons.mpr ⟨by k_mem, (List.forall_mem_cons.mpr ⟨by k_mem, (List.forall_mem_cons.mpr ⟨by k_mem, (List.forall_mem_cons.mpr ⟨by k_mem, (List.forall_mem_cons.mpr ⟨by k_mem, (List.forall_mem_cons.mpr ⟨by k_mem, (List.forall_mem_cons.mpr ⟨by k_mem, (List.forall_mem_cons.mpr ⟨by k_mem, (List.forall_mem_cons.mpr ⟨by k_mem, List.forall_mem_nil _⟩)⟩)⟩)⟩)⟩)⟩)⟩)⟩)⟩)⟩)⟩)⟩)) (by first | assumption | exact .nil) (by assumption) (by assumption) (by assumption) (by assumption) (by assumption) ?_ ?_ ?_ ?_ ?_
    · exact .none
    · exact ⟨_, _, rfl⟩
    · exact ⟨_, _, rfl⟩
    · exact g.up
    · exact gk.up
theorem kind5 {w : World} {ns : List Int} {j : Nat} {mean : ExcName → Option Value} {mg mb m : Str → Option Value} {h₀ : Heap} {L I fa : Addr} {ccd : Value} {i1 i2 i3 : Int} {s : Shared} {E : Value → Shared → Prop}
    {xT dT xO dO a l r k kl kr nl sg rw : Addr} {rest : Led} {vl vr wl wr nv vs vw : List Value} {κ τ κ' τ' : Keys} {t1 t2 t3 t4 u1 u2 u3 u4 q2 q3 q4 q5 : Tok} {c0 c1 c2 c3 c4 c5 c6 c7 c8 : Nat} {S Sk : St} {z : Str} { size limit reach low high : Int}
    (B : Below callerA h₀ [] h₀) (T : Top hd.view_39 (looseW hd.view_39 []) mean mg mb h₀)
    (F : Fr h₀ L s.heap (upds [(Str.ofString "tool", .ref xT), (Str.ofString "other", .ref xO), (Str.ofString "mine", .ref a), (Str.ofString "kept", .ref k), (Str.ofString "numbers", .ref nl), (Str.ofString "kind", .int 5 q2), (Str.ofString "text", .str z q3), (Str.ofString "signs", .ref sg), (Str.ofString "bra", .int S.bra t3), (Str.ofString "ket", .int S.ket t4), (Str.ofString "row", .ref rw), (Str.ofString "size", .int size q4), (Str.ofString "limit", .int limit q5), (Str.ofString "told", .none), (Str.ofString "due", .none)] m))
    (N : News h₀ L s.heap ((dT, stem w κ τ (toolOf S)) :: (dO, stem w κ' τ' (toolOf Sk)) :: rest))
    (il : StrsAre vl S.l) (ir : StrsAre vr S.r) (jl : StrsAre wl Sk.l) (jr : StrsAre wr Sk.r) (iN : IntsAre nv ns) (is : StrsAre vs (signs z)) (iw : StrsAre vw (S.l ++ S.r)) (g : Good j S) (gk : Good j Sk) (hne : Apart dO dT) (hj : j ≤ 15) (hz : z.length ≤ 4)
    (m0 : (I, krsIt i1 i2 i3) ∈ rest) (m1 : (xT, instObj 199 dT) ∈ rest) (m2 : (xO, instObj 199 dO) ∈ rest) (m3 : (a, tupO [.ref l, .ref r, .int S.behind t1, .int S.back t2, .int S.bra t3, .int S.ket t4] c0) ∈ rest) (m4 : (l, listOf (List.toArray vl) c1) ∈ rest) (m5 : (r, listOf (List.toArray vr) c2) ∈ rest) (m6 : (k, tupO [.ref kl, .ref kr, .int Sk.behind u1, .int Sk.back u2, .int Sk.bra u3, .int Sk.ket u4] c3) ∈ rest) (m7 : (kl, listOf (List.toArray wl) c4) ∈ rest) (m8 : (kr, listOf (List.toArray wr) c5) ∈ rest) (m9 : (nl, listOf (List.toArray nv) c6) ∈ rest) (m10 : (sg, listOf (List.toArray vs) c7) ∈ rest) (m11 : (rw, listOf (List.toArray vw) c8) ∈ rest) (hrT : ∀ p ∈ rest, p.1 ≠ dT) (hrO : ∀ p ∈ rest, p.1 ≠ dO)
    (hsize : size = S.l.length + S.r.length) (hlim : limit = size - S.behind) (hreach : reach = min limit size) (h0 : 0 ≤ low) (h1 : low ≤ high) (h2 : high ≤ reach) (X : (hd.heap_39 w.params).In h₀) :
    wpAny (model Challenge.rw_is0007_01.row.prog w) (callerA.deeper (lawEnv L fa ccd)) (exec chain (lawEnv L fa ccd)) (fun f s' => f = .next ∧ Mid w ns (j + 1) h₀ L I (krsIt i1 i2 i3) s s') E s := by
  revert X
  w_top off
  k_fill
  intro X
  have hs := (by (conv => lhs; whnf) : lawScope = _)
  have hb := (by (conv => lhs; whnf) : chain = _)
  unfold lawEnv
  rw [hs, hb]
  clear hs hb
  rename Fr _ _ _ _ => F8
  refine useF ?_ F8; clear F8; intro m9 F8
  have g1 := g.ol
  have g2 := g.or
  have g3 := g.len
  have hc : S.text.length = S.l.length + S.r.length := by rw [join_len (g1.app g2), List.length_append]
  have hrow : (S.l ++ S.r).length = S.l.length + S.r.length := List.length_append
  have gk3 := gk.len
  have hsg : (signs z).length = z.length := signs_length z
  have hne' : Apart dT dO := hne.symm
  have hck : Sk.text.length = Sk.l.length + Sk.r.length := by rw [join_len (gk.ol.app gk.or), List.length_append]
  have hlt : limit = (S.text.length : Int) - S.behind := by rw [hlim, hsize, hc, Int.natCast_add]
  have hst : size = (S.text.length : Int) := by rw [hsize, hc, Int.natCast_add]
  k_steps
  refine StopAt.intro ?_
  rcases Classical.em (0 ≤ S.bra ∧ S.bra ≤ S.ket ∧ S.ket ≤ limit ∧ limit ≤ size) with hq | hq
  · have hok : 0 ≤ (toolOf S).bra ∧ (toolOf S).bra ≤ (toolOf S).ket ∧ (toolOf S).ket ≤ (toolOf S).limit ∧ (toolOf S).limit ≤ (toolOf S).cur.length := by
      rw [hlt, hst] at hq; exact hq
    rw [holds_true (by assumption) (by assumption) hq]
    k_steps
    refine Mid.mk' (frUpds (by k_asm) ⟨Eq.refl (some _), Eq.refl (some _), Eq.refl (some _), Eq.refl (some _), Eq.refl (some _), Eq.refl (some _), Eq.refl (some _), trivial⟩) (cb_drop (by assumption) (List.forall_mem_cons.mpr ⟨by k_mem, (List.forall_mem_cons.mpr ⟨by k_mem, (List.forall_mem_cons.mpr ⟨by k_mem, (List.forall_mem_cons.mpr ⟨by k_mem, (List.forall_mem_cons.mpr ⟨by k_mem, (List.forall_mem_cons.mpr ⟨by k_mem, (List.forall_mem_cons.mpr ⟨by k_mem, (List.forall_mem_cons.mpr ⟨by k_mem, (List.forall_mem_cons.mpr ⟨by k_mem, (List.forall_mem_cons.mpr ⟨by k_mem, (List.forall_mem_cons.mpr ⟨by k_mem, (List.forall_mem_cons.mpr ⟨by k_mem, List.forall_mem_nil _⟩)⟩)⟩)⟩)⟩)⟩)⟩)⟩)⟩)⟩)⟩)⟩)) (by first | assumption | exact .nil) (by assumption) (by assumption) (by assumption) (by assumption) (by assumption) ?_ ?_ ?_ ?_ ?_
    · exact same_str (join_slice (g1.app g2) hq.1 hq.2.1 (by rw [hrow, Int.natCast_add, ← hsize]; exact Int.le_trans hq.2.2.1 hq.2.2.2))
    · exact ⟨_, _, rfl⟩
    · exact ⟨_, _, rfl⟩
    · exact g.up
    · exact gk.up
  · have hok : ¬ (0 ≤ (toolOf S).bra ∧ (toolOf S).bra ≤ (toolOf S).ket ∧ (toolOf S).ket ≤ (toolOf S).limit ∧ (toolOf S).limit ≤ (toolOf S).cur.length) := by
      rw [hlt, hst] at hq; exact hq
    rw [holds_false (by assumption) (by assumption) hq]
    k_steps
    refine Mid.mk' (frUpds (by k_asm) ⟨Eq.refl (some _), Eq.refl (some _), Eq.refl (some _), Eq.refl (some _), Eq.refl (some _), Eq.refl (some _), Eq.refl (some _), trivial⟩) (cb_drop (by assumption) (List.forall_mem_cons.mpr ⟨by k_mem, (List.forall_mem_cons.mpr ⟨by k_mem, (List.forall_mem_cons.mpr ⟨by k_mem, (List.forall_mem_cons.mpr ⟨by k_mem, (List.forall_mem_cons.mpr ⟨by k_mem, (List.forall_mem_cons.mpr ⟨by k_mem, (List.forall_mem_cons.mpr ⟨by k_mem, (List.forall_mem_cons.mpr ⟨by k_mem, (List.forall_mem_cons.mpr ⟨by k_mem, (List.forall_mem_cons.mpr ⟨by k_mem, (List.forall_mem_cons.mpr ⟨by k_mem, (List.forall_mem_cons.mpr ⟨by k_mem, List.forall_mem_nil _⟩)⟩)⟩)⟩)⟩)⟩)⟩)⟩)⟩)⟩)⟩)⟩)) (by first | assumption | exact .nil) (by assumption) (by assumption) (by assumption) (by assumption) (by assumption) ?_ ?_ ?_ ?_ ?_
    · exact .none
    · exact ⟨_, _, rfl⟩
    · exact ⟨_, _, rfl⟩
    · exact g.up
    · exact gk.up
theorem kind6 {w : World} {ns : List Int} {j : Nat} {mean : ExcName → Option Value} {mg mb m : Str → Option Value} {h₀ : Heap} {L I fa : Addr} {ccd : Value} {i1 i2 i3 : Int} {s : Shared} {E : Value → Shared → Prop}
    {xT dT xO dO a l r k kl kr nl sg rw : Addr} {rest : Led} {vl vr wl wr nv vs vw : List Value} {κ τ κ' τ' : Keys} {t1 t2 t3 t4 u1 u2 u3 u4 q2 q6 : Tok} {c0 c1 c2 c3 c4 c5 c6 c7 c8 : Nat} {S Sk : St} {z : Str} { size limit reach low high : Int}
    (B : Below callerA h₀ [] h₀) (T : Top hd.view_39 (looseW hd.view_39 []) mean mg mb h₀)
    (F : Fr h₀ L s.heap (upds [(Str.ofString "tool", .ref xT), (Str.ofString "other", .ref xO), (Str.ofString "mine", .ref a), (Str.ofString "kept", .ref k), (Str.ofString "numbers", .ref nl), (Str.ofString "kind", .int 6 q2), (Str.ofString "row", .ref rw), (Str.ofString "reach", .int reach q6), (Str.ofString "told", .none), (Str.ofString "due", .none)] m))
    (N : News h₀ L s.heap ((dT, stem w κ τ (toolOf S)) :: (dO, stem w κ' τ' (toolOf Sk)) :: rest))
    (il : StrsAre vl S.l) (ir : StrsAre vr S.r) (jl : StrsAre wl Sk.l) (jr : StrsAre wr Sk.r) (iN : IntsAre nv ns) (is : StrsAre vs (signs z)) (iw : StrsAre vw (S.l ++ S.r)) (g : Good j S) (gk : Good j Sk) (hne : Apart dO dT) (hj : j ≤ 15) (hz : z.length ≤ 4)
    (m0 : (I, krsIt i1 i2 i3) ∈ rest) (m1 : (xT, instObj 199 dT) ∈ rest) (m2 : (xO, instObj 199 dO) ∈ rest) (m3 : (a, tupO [.ref l, .ref r, .int S.behind t1, .int S.back t2, .int S.bra t3, .int S.ket t4] c0) ∈ rest) (m4 : (l, listOf (List.toArray vl) c1) ∈ rest) (m5 : (r, listOf (List.toArray vr) c2) ∈ rest) (m6 : (k, tupO [.ref kl, .ref kr, .int Sk.behind u1, .int Sk.back u2, .int Sk.bra u3, .int Sk.ket u4] c3) ∈ rest) (m7 : (kl, listOf (List.toArray wl) c4) ∈ rest) (m8 : (kr, listOf (List.toArray wr) c5) ∈ rest) (m9 : (nl, listOf (List.toArray nv) c6) ∈ rest) (m10 : (sg, listOf (List.toArray vs) c7) ∈ rest) (m11 : (rw, listOf (List.toArray vw) c8) ∈ rest) (hrT : ∀ p ∈ rest, p.1 ≠ dT) (hrO : ∀ p ∈ rest, p.1 ≠ dO)
    (hsize : size = S.l.length + S.r.length) (hlim : limit = size - S.behind) (hreach : reach = min limit size) (h0 : 0 ≤ low) (h1 : low ≤ high) (h2 : high ≤ reach) (X : (hd.heap_39 w.params).In h₀) :
    wpAny (model Challenge.rw_is0007_01.row.prog w) (callerA.deeper (lawEnv L fa ccd)) (exec chain (lawEnv L fa ccd)) (fun f s' => f = .next ∧ Mid w ns (j + 1) h₀ L I (krsIt i1 i2 i3) s s') E s := by
  revert X
  w_top off
  k_fill
  intro X
  have hs := (by (conv => lhs; whnf) : lawScope = _)
  have hb := (by (conv => lhs; whnf) : chain = _)
  unfold lawEnv
  rw [hs, hb]
  clear hs hb
  rename Fr _ _ _ _ => F8
  refine useF ?_ F8; clear F8; intro m9 F8
  have g1 := g.ol
  have g2 := g.or
  have g3 := g.len
  have hc : S.text.length = S.l.length + S.r.length := by rw [join_len (g1.app g2), List.length_append]
  have hrow : (S.l ++ S.r).length = S.l.length + S.r.length := List.length_append
  have gk3 := gk.len
  have hsg : (signs z).length = z.length := signs_length z
  have hne' : Apart dT dO := hne.symm
  have hck : Sk.text.length = Sk.l.length + Sk.r.length := by rw [join_len (gk.ol.app gk.or), List.length_append]
  k_steps
  refine Mid.mk' (frUpds (by k_asm) ⟨Eq.refl (some _), Eq.refl (some _), Eq.refl (some _), Eq.refl (some _), Eq.refl (some _), Eq.refl (some _), Eq.refl (some _), trivial⟩) (cb_drop (by assumption) (List.forall_mem_cons.mpr ⟨by k_mem, (List.forall_mem_cons.mpr ⟨by k_mem, (List.forall_mem_cons.mpr ⟨by k_mem, (List.forall_mem_cons.mpr ⟨by k_mem, (List.forall_mem_cons.mpr ⟨by k_mem, (List.forall_mem_cons.mpr ⟨by k_mem, (List.forall_mem_cons.mpr ⟨by k_mem, (List.forall_mem_cons.mpr ⟨by k_mem, (List.forall_mem_cons.mpr ⟨by k_mem, (List.forall_mem_cons.mpr ⟨by k_mem, (List.forall_mem_cons.mpr ⟨by k_mem, (List.forall_mem_cons.mpr ⟨by k_mem, List.forall_mem_nil _⟩)⟩)⟩)⟩)⟩)⟩)⟩)⟩)⟩)⟩)⟩)⟩)) (by first | assumption | exact .nil) (by assumption) (by assumption) (by assumption) (by assumption) (by assumption) ?_ ?_ ?_ ?_ ?_
  · exact same_str (law6 (g1.app g2) (by have := g.beh; lia) (by first | exact k6 hsize hlim hreach hc hrow | lia))
  · exact ⟨_, _, rfl⟩
  · exact ⟨_, _, rfl⟩
  · exact g.up
  · exact gk.up
theorem kind7 {w : World} {ns : List Int} {j : Nat} {mean : ExcName → Option Value} {mg mb m : Str → Option Value} {h₀ : Heap} {L I fa : Addr} {ccd : Value} {i1 i2 i3 : Int} {s : Shared} {E : Value → Shared → Prop}
    {xT dT xO dO a l r k kl kr nl sg rw : Addr} {rest : Led} {vl vr wl wr nv vs vw : List Value} {κ τ κ' τ' : Keys} {t1 t2 t3 t4 u1 u2 u3 u4 q0 q1 q2 q4 : Tok} {c0 c1 c2 c3 c4 c5 c6 c7 c8 : Nat} {S Sk : St} {z : Str} {one two size limit reach low high : Int}
    (B : Below callerA h₀ [] h₀) (T : Top hd.view_39 (looseW hd.view_39 []) mean mg mb h₀)
    (F : Fr h₀ L s.heap (upds [(Str.ofString "tool", .ref xT), (Str.ofString "other", .ref xO), (Str.ofString "mine", .ref a), (Str.ofString "kept", .ref k), (Str.ofString "numbers", .ref nl), (Str.ofString "one", .int one q0), (Str.ofString "two", .int two q1), (Str.ofString "kind", .int 7 q2), (Str.ofString "behind", .int S.behind t1), (Str.ofString "bra", .int S.bra t3), (Str.ofString "ket", .int S.ket t4), (Str.ofString "row", .ref rw), (Str.ofString "size", .int size q4), (Str.ofString "told", .none), (Str.ofString "due", .none)] m))
    (N : News h₀ L s.heap ((dT, stem w κ τ (toolOf S)) :: (dO, stem w κ' τ' (toolOf Sk)) :: rest))
    (il : StrsAre vl S.l) (ir : StrsAre vr S.r) (jl : StrsAre wl Sk.l) (jr : StrsAre wr Sk.r) (iN : IntsAre nv ns) (is : StrsAre vs (signs z)) (iw : StrsAre vw (S.l ++ S.r)) (g : Good j S) (gk : Good j Sk) (hne : Apart dO dT) (hj : j ≤ 15) (hz : z.length ≤ 4)
    (m0 : (I, krsIt i1 i2 i3) ∈ rest) (m1 : (xT, instObj 199 dT) ∈ rest) (m2 : (xO, instObj 199 dO) ∈ rest) (m3 : (a, tupO [.ref l, .ref r, .int S.behind t1, .int S.back t2, .int S.bra t3, .int S.ket t4] c0) ∈ rest) (m4 : (l, listOf (List.toArray vl) c1) ∈ rest) (m5 : (r, listOf (List.toArray vr) c2) ∈ rest) (m6 : (k, tupO [.ref kl, .ref kr, .int Sk.behind u1, .int Sk.back u2, .int Sk.bra u3, .int Sk.ket u4] c3) ∈ rest) (m7 : (kl, listOf (List.toArray wl) c4) ∈ rest) (m8 : (kr, listOf (List.toArray wr) c5) ∈ rest) (m9 : (nl, listOf (List.toArray nv) c6) ∈ rest) (m10 : (sg, listOf (List.toArray vs) c7) ∈ rest) (m11 : (rw, listOf (List.toArray vw) c8) ∈ rest) (hrT : ∀ p ∈ rest, p.1 ≠ dT) (hrO : ∀ p ∈ rest, p.1 ≠ dO)
    (hsize : size = S.l.length + S.r.length) (hlim : limit = size - S.behind) (hreach : reach = min limit size) (h0 : 0 ≤ low) (h1 : low ≤ high) (h2 : high ≤ reach) (X : (hd.heap_39 w.params).In h₀) :
    wpAny (model Challenge.rw_is0007_01.row.prog w) (callerA.deeper (lawEnv L fa ccd)) (exec chain (lawEnv L fa ccd)) (fun f s' => f = .next ∧ Mid w ns (j + 1) h₀ L I (krsIt i1 i2 i3) s s') E s := by
  revert X
  w_top off
  k_fill
  intro X
  have hs := (by (conv => lhs; whnf) : lawScope = _)
  have hb := (by (conv => lhs; whnf) : chain = _)
  unfold lawEnv
  rw [hs, hb]
  clear hs hb
  rename Fr _ _ _ _ => F8
  refine useF ?_ F8; clear F8; intro m9 F8
  have g1 := g.ol
  have g2 := g.or
  have g3 := g.len
  have hc : S.text.length = S.l.length + S.r.length := by rw [join_len (g1.app g2), List.length_append]
  have hrow : (S.l ++ S.r).length = S.l.length + S.r.length := List.length_append
  have gk3 := gk.len
  have hsg : (signs z).length = z.length := signs_length z
  have hne' : Apart dT dO := hne.symm
  have hck : Sk.text.length = Sk.l.length + Sk.r.length := by rw [join_len (gk.ol.app gk.or), List.length_append]
  k_steps
  have f0 : 0 ≤ one.fmod (size + 1) := fm_lo _ (Int.lt_add_one_of_le (size_pos hsize))
  have f1 : one.fmod (size + 1) < size + 1 := fm_hi _ (Int.lt_add_one_of_le (size_pos hsize))
  refine Mid.mk' (frUpds (by k_asm) ⟨Eq.refl (some _), Eq.refl (some _), Eq.refl (some _), Eq.refl (some _), Eq.refl (some _), Eq.refl (some _), Eq.refl (some _), trivial⟩) (cb_drop (by assumption) (List.forall_mem_cons.mpr ⟨by k_mem, (List.forall_mem_cons.mpr ⟨by k_mem, (List.forall_mem_cons.mpr ⟨by k_mem, (List.forall_mem_cons.mpr ⟨by k_mem, (List.forall_mem_cons.mpr ⟨by k_mem, (List.forall_mem_cons.mpr ⟨by k_mem, (List.forall_mem_cons.mpr ⟨by k_mem, (List.forall_mem_cons.mpr ⟨by k_mem, (List.forall_mem_cons.mpr ⟨by k_mem, (List.forall_mem_cons.mpr ⟨by k_mem, (List.forall_mem_cons.mpr ⟨by k_mem, (List.forall_mem_cons.mpr ⟨by k_mem, List.forall_mem_nil _⟩)⟩)⟩)⟩)⟩)⟩)⟩)⟩)⟩)⟩)⟩)⟩)) (by first | assumption | exact .nil) (by assumption) (by assumption) (by assumption) (by assumption) (by assumption) ?_ ?_ ?_ ?_ ?_
  · exact .none
  · exact ⟨κ, stem_eq (law7 f0 (hsize ▸ Int.lt_add_one_iff.mp f1)) rfl⟩
  · exact ⟨_, _, rfl⟩
  · exact good7 g f0
  · exact gk.up
theorem kind8 {w : World} {ns : List Int} {j : Nat} {mean : ExcName → Option Value} {mg mb m : Str → Option Value} {h₀ : Heap} {L I fa : Addr} {ccd : Value} {i1 i2 i3 : Int} {s : Shared} {E : Value → Shared → Prop}
    {xT dT xO dO a l r k kl kr nl sg rw : Addr} {rest : Led} {vl vr wl wr nv vs vw : List Value} {κ τ κ' τ' : Keys} {t1 t2 t3 t4 u1 u2 u3 u4 q2 q7 q8 : Tok} {c0 c1 c2 c3 c4 c5 c6 c7 c8 : Nat} {S Sk : St} {z : Str} { size limit reach low high : Int}
    (B : Below callerA h₀ [] h₀) (T : Top hd.view_39 (looseW hd.view_39 []) mean mg mb h₀)
    (F : Fr h₀ L s.heap (upds [(Str.ofString "tool", .ref xT), (Str.ofString "other", .ref xO), (Str.ofString "mine", .ref a), (Str.ofString "kept", .ref k), (Str.ofString "numbers", .ref nl), (Str.ofString "kind", .int 8 q2), (Str.ofString "left", .ref l), (Str.ofString "right", .ref r), (Str.ofString "behind", .int S.behind t1), (Str.ofString "back", .int S.back t2), (Str.ofString "low", .int low q7), (Str.ofString "high", .int high q8), (Str.ofString "told", .none), (Str.ofString "due", .none)] m))
    (N : News h₀ L s.heap ((dT, stem w κ τ (toolOf S)) :: (dO, stem w κ' τ' (toolOf Sk)) :: rest))
    (il : StrsAre vl S.l) (ir : StrsAre vr S.r) (jl : StrsAre wl Sk.l) (jr : StrsAre wr Sk.r) (iN : IntsAre nv ns) (is : StrsAre vs (signs z)) (iw : StrsAre vw (S.l ++ S.r)) (g : Good j S) (gk : Good j Sk) (hne : Apart dO dT) (hj : j ≤ 15) (hz : z.length ≤ 4)
    (m0 : (I, krsIt i1 i2 i3) ∈ rest) (m1 : (xT, instObj 199 dT) ∈ rest) (m2 : (xO, instObj 199 dO) ∈ rest) (m3 : (a, tupO [.ref l, .ref r, .int S.behind t1, .int S.back t2, .int S.bra t3, .int S.ket t4] c0) ∈ rest) (m4 : (l, listOf (List.toArray vl) c1) ∈ rest) (m5 : (r, listOf (List.toArray vr) c2) ∈ rest) (m6 : (k, tupO [.ref kl, .ref kr, .int Sk.behind u1, .int Sk.back u2, .int Sk.bra u3, .int Sk.ket u4] c3) ∈ rest) (m7 : (kl, listOf (List.toArray wl) c4) ∈ rest) (m8 : (kr, listOf (List.toArray wr) c5) ∈ rest) (m9 : (nl, listOf (List.toArray nv) c6) ∈ rest) (m10 : (sg, listOf (List.toArray vs) c7) ∈ rest) (m11 : (rw, listOf (List.toArray vw) c8) ∈ rest) (hrT : ∀ p ∈ rest, p.1 ≠ dT) (hrO : ∀ p ∈ rest, p.1 ≠ dO)
    (hsize : size = S.l.length + S.r.length) (hlim : limit = size - S.behind) (hreach : reach = min limit size) (h0 : 0 ≤ low) (h1 : low ≤ high) (h2 : high ≤ reach) (X : (hd.heap_39 w.params).In h₀) :
    wpAny (model Challenge.rw_is0007_01.row.prog w) (callerA.deeper (lawEnv L fa ccd)) (exec chain (lawEnv L fa ccd)) (fun f s' => f = .next ∧ Mid w ns (j + 1) h₀ L I (krsIt i1 i2 i3) s s') E s := by
  revert X
  w_top off
  k_fill
  intro X
  have hs := (by (conv => lhs; whnf) : lawScope = _)
  have hb := (by (conv => lhs; whnf) : chain = _)
  unfold lawEnv
  rw [hs, hb]
  clear hs hb
  rename Fr _ _ _ _ => F8
  refine useF ?_ F8; clear F8; intro m9 F8
  have g1 := g.ol
  have g2 := g.or
  have g3 := g.len
  have hc : S.text.length = S.l.length + S.r.length := by rw [join_len (g1.app g2), List.length_append]
  have hrow : (S.l ++ S.r).length = S.l.length + S.r.length := List.length_append
  have gk3 := gk.len
  have hsg : (signs z).length = z.length := signs_length z
  have hne' : Apart dT dO := hne.symm
  have hck : Sk.text.length = Sk.l.length + Sk.r.length := by rw [join_len (gk.ol.app gk.or), List.length_append]
  k_steps
  refine Mid.mk' (frUpds (by k_asm) ⟨Eq.refl (some _), Eq.refl (some _), Eq.refl (some _), Eq.refl (some _), Eq.refl (some _), Eq.refl (some _), Eq.refl (some _), trivial⟩) (cb_drop (by assumption) (List.forall_mem_cons.mpr ⟨by k_mem, (List.forall_mem_cons.mpr ⟨by k_mem, (List.forall_mem_cons.mpr ⟨by k_mem, (List.forall_mem_cons.mpr ⟨by k_mem, (List.forall_mem_cons.mpr ⟨by k_mem, (List.forall_mem_cons.mpr ⟨by k_mem, (List.forall_mem_cons.mpr ⟨by k_mem, (List.forall_mem_cons.mpr ⟨by k_mem, (List.forall_mem_cons.mpr ⟨by k_mem, (List.forall_mem_cons.mpr ⟨by k_mem, (List.forall_mem_cons.mpr ⟨by k_mem, (List.forall_mem_cons.mpr ⟨by k_mem, List.forall_mem_nil _⟩)⟩)⟩)⟩)⟩)⟩)⟩)⟩)⟩)⟩)⟩)⟩)) (by first | assumption | exact .nil) (by assumption) (by assumption) (by assumption) (by assumption) (by assumption) ?_ ?_ ?_ ?_ ?_
  · exact .none
  · exact ⟨κ, stem_eq rfl rfl⟩
  · exact ⟨_, _, rfl⟩
  · exact good8 g
  · exact gk.up
theorem kind9 {w : World} {ns : List Int} {j : Nat} {mean : ExcName → Option Value} {mg mb m : Str → Option Value} {h₀ : Heap} {L I fa : Addr} {ccd : Value} {i1 i2 i3 : Int} {s : Shared} {E : Value → Shared → Prop}
    {xT dT xO dO a l r k kl kr nl sg rw : Addr} {rest : Led} {vl vr wl wr nv vs vw : List Value} {κ τ κ' τ' : Keys} {t1 t2 t3 t4 u1 u2 u3 u4 q0 q1 q2 q4 : Tok} {c0 c1 c2 c3 c4 c5 c6 c7 c8 : Nat} {S Sk : St} {z : Str} {one two size limit reach low high : Int}
    (B : Below callerA h₀ [] h₀) (T : Top hd.view_39 (looseW hd.view_39 []) mean mg mb h₀)
    (F : Fr h₀ L s.heap (upds [(Str.ofString "tool", .ref xT), (Str.ofString "other", .ref xO), (Str.ofString "mine", .ref a), (Str.ofString "kept", .ref k), (Str.ofString "numbers", .ref nl), (Str.ofString "one", .int one q0), (Str.ofString "two", .int two q1), (Str.ofString "kind", .int 9 q2), (Str.ofString "left", .ref l), (Str.ofString "right", .ref r), (Str.ofString "behind", .int S.behind t1), (Str.ofString "back", .int S.back t2), (Str.ofString "size", .int size q4), (Str.ofString "told", .none), (Str.ofString "due", .none)] m))
    (N : News h₀ L s.heap ((dT, stem w κ τ (toolOf S)) :: (dO, stem w κ' τ' (toolOf Sk)) :: rest))
    (il : StrsAre vl S.l) (ir : StrsAre vr S.r) (jl : StrsAre wl Sk.l) (jr : StrsAre wr Sk.r) (iN : IntsAre nv ns) (is : StrsAre vs (signs z)) (iw : StrsAre vw (S.l ++ S.r)) (g : Good j S) (gk : Good j Sk) (hne : Apart dO dT) (hj : j ≤ 15) (hz : z.length ≤ 4)
    (m0 : (I, krsIt i1 i2 i3) ∈ rest) (m1 : (xT, instObj 199 dT) ∈ rest) (m2 : (xO, instObj 199 dO) ∈ rest) (m3 : (a, tupO [.ref l, .ref r, .int S.behind t1, .int S.back t2, .int S.bra t3, .int S.ket t4] c0) ∈ rest) (m4 : (l, listOf (List.toArray vl) c1) ∈ rest) (m5 : (r, listOf (List.toArray vr) c2) ∈ rest) (m6 : (k, tupO [.ref kl, .ref kr, .int Sk.behind u1, .int Sk.back u2, .int Sk.bra u3, .int Sk.ket u4] c3) ∈ rest) (m7 : (kl, listOf (List.toArray wl) c4) ∈ rest) (m8 : (kr, listOf (List.toArray wr) c5) ∈ rest) (m9 : (nl, listOf (List.toArray nv) c6) ∈ rest) (m10 : (sg, listOf (List.toArray vs) c7) ∈ rest) (m11 : (rw, listOf (List.toArray vw) c8) ∈ rest) (hrT : ∀ p ∈ rest, p.1 ≠ dT) (hrO : ∀ p ∈ rest, p.1 ≠ dO)
    (hsize : size = S.l.length + S.r.length) (hlim : limit = size - S.behind) (hreach : reach = min limit size) (h0 : 0 ≤ low) (h1 : low ≤ high) (h2 : high ≤ reach) (X : (hd.heap_39 w.params).In h₀) :
    wpAny (model Challenge.rw_is0007_01.row.prog w) (callerA.deeper (lawEnv L fa ccd)) (exec chain (lawEnv L fa ccd)) (fun f s' => f = .next ∧ Mid w ns (j + 1) h₀ L I (krsIt i1 i2 i3) s s') E s := by
  revert X
  w_top off
  k_fill
  intro X
  have hs := (by (conv => lhs; whnf) : lawScope = _)
  have hb := (by (conv => lhs; whnf) : chain = _)
  unfold lawEnv
  rw [hs, hb]
  clear hs hb
  rename Fr _ _ _ _ => F8
  refine useF ?_ F8; clear F8; intro m9 F8
  have g1 := g.ol
  have g2 := g.or
  have g3 := g.len
  have hc : S.text.length = S.l.length + S.r.length := by rw [join_len (g1.app g2), List.length_append]
  have hrow : (S.l ++ S.r).length = S.l.length + S.r.length := List.length_append
  have gk3 := gk.len
  have hsg : (signs z).length = z.length := signs_length z
  have hne' : Apart dT dO := hne.symm
  have hck : Sk.text.length = Sk.l.length + Sk.r.length := by rw [join_len (gk.ol.app gk.or), List.length_append]
  k_steps
  refine Mid.mk' (frUpds (by k_asm) ⟨Eq.refl (some _), Eq.refl (some _), Eq.refl (some _), Eq.refl (some _), Eq.refl (some _), Eq.refl (some _), Eq.refl (some _), trivial⟩) (cb_drop (by assumption) (List.forall_mem_cons.mpr ⟨by k_mem, (List.forall_mem_cons.mpr ⟨by k_mem, (List.forall_mem_cons.mpr ⟨by k_mem, (List.forall_mem_cons.mpr ⟨by k_mem, (List.forall_mem_cons.mpr ⟨by k_mem, (List.forall_mem_cons.mpr ⟨by k_mem, (List.forall_mem_cons.mpr ⟨by k_mem, (List.forall_mem_cons.mpr ⟨by k_mem, (List.forall_mem_cons.mpr ⟨by k_mem, (List.forall_mem_cons.mpr ⟨by k_mem, (List.forall_mem_cons.mpr ⟨by k_mem, (List.forall_mem_cons.mpr ⟨by k_mem, List.forall_mem_nil _⟩)⟩)⟩)⟩)⟩)⟩)⟩)⟩)⟩)⟩)⟩)⟩)) (by first | assumption | exact .nil) (by assumption) (by assumption) (by assumption) (by assumption) (by assumption) ?_ ?_ ?_ ?_ ?_
  · exact .none
  · exact ⟨κ, stem_eq rfl rfl⟩
  · exact ⟨_, _, rfl⟩
  · exact good8 g
  · exact gk.up
theorem kind10 {w : World} {ns : List Int} {j : Nat} {mean : ExcName → Option Value} {mg mb m : Str → Option Value} {h₀ : Heap} {L I fa : Addr} {ccd : Value} {i1 i2 i3 : Int} {s : Shared} {E : Value → Shared → Prop}
    {xT dT xO dO a l r k kl kr nl sg rw : Addr} {rest : Led} {vl vr wl wr nv vs vw : List Value} {κ τ κ' τ' : Keys} {t1 t2 t3 t4 u1 u2 u3 u4 q0 q2 q4 : Tok} {c0 c1 c2 c3 c4 c5 c6 c7 c8 : Nat} {S Sk : St} {z : Str} {one size limit reach low high : Int}
    (B : Below callerA h₀ [] h₀) (T : Top hd.view_39 (looseW hd.view_39 []) mean mg mb h₀)
    (F : Fr h₀ L s.heap (upds [(Str.ofString "tool", .ref xT), (Str.ofString "other", .ref xO), (Str.ofString "mine", .ref a), (Str.ofString "kept", .ref k), (Str.ofString "numbers", .ref nl), (Str.ofString "one", .int one q0), (Str.ofString "kind", .int 10 q2), (Str.ofString "left", .ref l), (Str.ofString "right", .ref r), (Str.ofString "back", .int S.back t2), (Str.ofString "bra", .int S.bra t3), (Str.ofString "ket", .int S.ket t4), (Str.ofString "size", .int size q4), (Str.ofString "told", .none), (Str.ofString "due", .none)] m))
    (N : News h₀ L s.heap ((dT, stem w κ τ (toolOf S)) :: (dO, stem w κ' τ' (toolOf Sk)) :: rest))
    (il : StrsAre vl S.l) (ir : StrsAre vr S.r) (jl : StrsAre wl Sk.l) (jr : StrsAre wr Sk.r) (iN : IntsAre nv ns) (is : StrsAre vs (signs z)) (iw : StrsAre vw (S.l ++ S.r)) (g : Good j S) (gk : Good j Sk) (hne : Apart dO dT) (hj : j ≤ 15) (hz : z.length ≤ 4)
    (m0 : (I, krsIt i1 i2 i3) ∈ rest) (m1 : (xT, instObj 199 dT) ∈ rest) (m2 : (xO, instObj 199 dO) ∈ rest) (m3 : (a, tupO [.ref l, .ref r, .int S.behind t1, .int S.back t2, .int S.bra t3, .int S.ket t4] c0) ∈ rest) (m4 : (l, listOf (List.toArray vl) c1) ∈ rest) (m5 : (r, listOf (List.toArray vr) c2) ∈ rest) (m6 : (k, tupO [.ref kl, .ref kr, .int Sk.behind u1, .int Sk.back u2, .int Sk.bra u3, .int Sk.ket u4] c3) ∈ rest) (m7 : (kl, listOf (List.toArray wl) c4) ∈ rest) (m8 : (kr, listOf (List.toArray wr) c5) ∈ rest) (m9 : (nl, listOf (List.toArray nv) c6) ∈ rest) (m10 : (sg, listOf (List.toArray vs) c7) ∈ rest) (m11 : (rw, listOf (List.toArray vw) c8) ∈ rest) (hrT : ∀ p ∈ rest, p.1 ≠ dT) (hrO : ∀ p ∈ rest, p.1 ≠ dO)
    (hsize : size = S.l.length + S.r.length) (hlim : limit = size - S.behind) (hreach : reach = min limit size) (h0 : 0 ≤ low) (h1 : low ≤ high) (h2 : high ≤ reach) (X : (hd.heap_39 w.params).In h₀) :
    wpAny (model Challenge.rw_is0007_01.row.prog w) (callerA.deeper (lawEnv L fa ccd)) (exec chain (lawEnv L fa ccd)) (fun f s' => f = .next ∧ Mid w ns (j + 1) h₀ L I (krsIt i1 i2 i3) s s') E s := by
  revert X
  w_top off
  k_fill
  intro X
  have hs := (by (conv => lhs; whnf) : lawScope = _)
  have hb := (by (conv => lhs; whnf) : chain = _)
  unfold lawEnv
  rw [hs, hb]
  clear hs hb
  rename Fr _ _ _ _ => F8
  refine useF ?_ F8; clear F8; intro m9 F8
  have g1 := g.ol
  have g2 := g.or
  have g3 := g.len
  have hc : S.text.length = S.l.length + S.r.length := by rw [join_len (g1.app g2), List.length_append]
  have hrow : (S.l ++ S.r).length = S.l.length + S.r.length := List.length_append
  have gk3 := gk.len
  have hsg : (signs z).length = z.length := signs_length z
  have hne' : Apart dT dO := hne.symm
  have hck : Sk.text.length = Sk.l.length + Sk.r.length := by rw [join_len (gk.ol.app gk.or), List.length_append]
  k_steps
  have f1 : one.fmod (size + 2) < size + 2 := fm_hi _ (by lia)
  have hsz : size = (S.text.length : Int) := by rw [hsize, hc, Int.natCast_add]
  refine Mid.mk' (frUpds (by k_asm) ⟨Eq.refl (some _), Eq.refl (some _), Eq.refl (some _), Eq.refl (some _), Eq.refl (some _), Eq.refl (some _), Eq.refl (some _), trivial⟩) (cb_drop (by assumption) (List.forall_mem_cons.mpr ⟨by k_mem, (List.forall_mem_cons.mpr ⟨by k_mem, (List.forall_mem_cons.mpr ⟨by k_mem, (List.forall_mem_cons.mpr ⟨by k_mem, (List.forall_mem_cons.mpr ⟨by k_mem, (List.forall_mem_cons.mpr ⟨by k_mem, (List.forall_mem_cons.mpr ⟨by k_mem, (List.forall_mem_cons.mpr ⟨by k_mem, (List.forall_mem_cons.mpr ⟨by k_mem, (List.forall_mem_cons.mpr ⟨by k_mem, (List.forall_mem_cons.mpr ⟨by k_mem, (List.forall_mem_cons.mpr ⟨by k_mem, List.forall_mem_nil _⟩)⟩)⟩)⟩)⟩)⟩)⟩)⟩)⟩)⟩)⟩)⟩)) (by first | assumption | exact .nil) (by assumption) (by assumption) (by assumption) (by assumption) (by assumption) ?_ ?_ ?_ ?_ ?_
  · exact .none
  · exact ⟨κ, stem_eq (by rw [hsz]) rfl⟩
  · exact ⟨_, _, rfl⟩
  · exact good10 g (hsize ▸ sub_one_le f1)
  · exact gk.up
theorem kind11 {w : World} {ns : List Int} {j : Nat} {mean : ExcName → Option Value} {mg mb m : Str → Option Value} {h₀ : Heap} {L I fa : Addr} {ccd : Value} {i1 i2 i3 : Int} {s : Shared} {E : Value → Shared → Prop}
    {xT dT xO dO a l r k kl kr nl sg rw : Addr} {rest : Led} {vl vr wl wr nv vs vw : List Value} {κ τ κ' τ' : Keys} {t1 t2 t3 t4 u1 u2 u3 u4 q0 q2 : Tok} {c0 c1 c2 c3 c4 c5 c6 c7 c8 : Nat} {S Sk : St} {z : Str} {one size limit reach low high : Int}
    (B : Below callerA h₀ [] h₀) (T : Top hd.view_39 (looseW hd.view_39 []) mean mg mb h₀)
    (F : Fr h₀ L s.heap (upds [(Str.ofString "tool", .ref xT), (Str.ofString "other", .ref xO), (Str.ofString "mine", .ref a), (Str.ofString "kept", .ref k), (Str.ofString "numbers", .ref nl), (Str.ofString "one", .int one q0), (Str.ofString "kind", .int 11 q2), (Str.ofString "told", .none), (Str.ofString "due", .none)] m))
    (N : News h₀ L s.heap ((dT, stem w κ τ (toolOf S)) :: (dO, stem w κ' τ' (toolOf Sk)) :: rest))
    (il : StrsAre vl S.l) (ir : StrsAre vr S.r) (jl : StrsAre wl Sk.l) (jr : StrsAre wr Sk.r) (iN : IntsAre nv ns) (is : StrsAre vs (signs z)) (iw : StrsAre vw (S.l ++ S.r)) (g : Good j S) (gk : Good j Sk) (hne : Apart dO dT) (hj : j ≤ 15) (hz : z.length ≤ 4)
    (m0 : (I, krsIt i1 i2 i3) ∈ rest) (m1 : (xT, instObj 199 dT) ∈ rest) (m2 : (xO, instObj 199 dO) ∈ rest) (m3 : (a, tupO [.ref l, .ref r, .int S.behind t1, .int S.back t2, .int S.bra t3, .int S.ket t4] c0) ∈ rest) (m4 : (l, listOf (List.toArray vl) c1) ∈ rest) (m5 : (r, listOf (List.toArray vr) c2) ∈ rest) (m6 : (k, tupO [.ref kl, .ref kr, .int Sk.behind u1, .int Sk.back u2, .int Sk.bra u3, .int Sk.ket u4] c3) ∈ rest) (m7 : (kl, listOf (List.toArray wl) c4) ∈ rest) (m8 : (kr, listOf (List.toArray wr) c5) ∈ rest) (m9 : (nl, listOf (List.toArray nv) c6) ∈ rest) (m10 : (sg, listOf (List.toArray vs) c7) ∈ rest) (m11 : (rw, listOf (List.toArray vw) c8) ∈ rest) (hrT : ∀ p ∈ rest, p.1 ≠ dT) (hrO : ∀ p ∈ rest, p.1 ≠ dO)
    (hsize : size = S.l.length + S.r.length) (hlim : limit = size - S.behind) (hreach : reach = min limit size) (h0 : 0 ≤ low) (h1 : low ≤ high) (h2 : high ≤ reach) (X : (hd.heap_39 w.params).In h₀) :
    wpAny (model Challenge.rw_is0007_01.row.prog w) (callerA.deeper (lawEnv L fa ccd)) (exec chain (lawEnv L fa ccd)) (fun f s' => f = .next ∧ Mid w ns (j + 1) h₀ L I (krsIt i1 i2 i3) s s') E s := by
  revert X
  w_top off
  k_fill
  intro X
  have hs := (by (conv => lhs; whnf) : lawScope = _)
  have hb := (by (conv => lhs; whnf) : chain = _)
  unfold lawEnv
  rw [hs, hb]
  clear hs hb
  rename Fr _ _ _ _ => F8
  refine useF ?_ F8; clear F8; intro m9 F8
  have g1 := g.ol
  have g2 := g.or
  have g3 := g.len
  have hc : S.text.length = S.l.length + S.r.length := by rw [join_len (g1.app g2), List.length_append]
  have hrow : (S.l ++ S.r).length = S.l.length + S.r.length := List.length_append
  have gk3 := gk.len
  have hsg : (signs z).length = z.length := signs_length z
  have hne' : Apart dT dO := hne.symm
  have hck : Sk.text.length = Sk.l.length + Sk.r.length := by rw [join_len (gk.ol.app gk.or), List.length_append]
  k_steps
  all_goals
    refine Mid.mk' (frUpds (by k_asm) ⟨Eq.refl (some _), Eq.refl (some _), Eq.refl (some _), Eq.refl (some _), Eq.refl (some _), Eq.refl (some _), Eq.refl (some _), trivial⟩) (cb_drop (by assumption) (List.forall_mem_cons.mpr ⟨by k_mem, (List.forall_mem_cons.mpr ⟨by k_mem, (List.forall_mem_cons.mpr ⟨by k_mem, (List.forall_mem_cons.mpr ⟨by k_mem, (List.forall_mem_cons.mpr ⟨by k_mem, (List.forall_mem_cons.mpr ⟨by k_mem, (List.forall_mem_cons.mpr ⟨by k_mem, (List.forall_mem_cons.mpr ⟨by k_mem, (List.forall_mem_cons.mpr ⟨by k_mem, (List.forall_mem_cons.mpr ⟨by k_mem, (List.forall_mem_cons.mpr ⟨by k_mem, (List.forall_mem_cons.mpr ⟨by k_mem, List.forall_mem_nil _⟩)⟩)⟩)⟩)⟩)⟩)⟩)⟩)⟩)⟩)⟩)⟩)) (by first | assumption | exact .nil) (by assumption) (by assumption) (by assumption) (by assumption) (by assumption) ?_ ?_ ?_ ?_ ?_
    · exact .none
    · exact ⟨_, _, rfl⟩
    · exact ⟨_, _, rfl⟩
    · first | exact g.up | exact gk.up
    · first | exact g.up | exact gk.up
theorem kind12 {w : World} {ns : List Int} {j : Nat} {mean : ExcName → Option Value} {mg mb m : Str → Option Value} {h₀ : Heap} {L I fa : Addr} {ccd : Value} {i1 i2 i3 : Int} {s : Shared} {E : Value → Shared → Prop}
    {xT dT xO dO a l r k kl kr nl sg rw : Addr} {rest : Led} {vl vr wl wr nv vs vw : List Value} {κ τ κ' τ' : Keys} {t1 t2 t3 t4 u1 u2 u3 u4 q2 q3 : Tok} {c0 c1 c2 c3 c4 c5 c6 c7 c8 : Nat} {S Sk : St} {z : Str} { size limit reach low high : Int}
    (B : Below callerA h₀ [] h₀) (T : Top hd.view_39 (looseW hd.view_39 []) mean mg mb h₀)
    (F : Fr h₀ L s.heap (upds [(Str.ofString "tool", .ref xT), (Str.ofString "other", .ref xO), (Str.ofString "mine", .ref a), (Str.ofString "kept", .ref k), (Str.ofString "numbers", .ref nl), (Str.ofString "kind", .int 12 q2), (Str.ofString "text", .str z q3), (Str.ofString "told", .none), (Str.ofString "due", .none)] m))
    (N : News h₀ L s.heap ((dT, stem w κ τ (toolOf S)) :: (dO, stem w κ' τ' (toolOf Sk)) :: rest))
    (il : StrsAre vl S.l) (ir : StrsAre vr S.r) (jl : StrsAre wl Sk.l) (jr : StrsAre wr Sk.r) (iN : IntsAre nv ns) (is : StrsAre vs (signs z)) (iw : StrsAre vw (S.l ++ S.r)) (g : Good j S) (gk : Good j Sk) (hne : Apart dO dT) (hj : j ≤ 15) (hz : z.length ≤ 4)
    (m0 : (I, krsIt i1 i2 i3) ∈ rest) (m1 : (xT, instObj 199 dT) ∈ rest) (m2 : (xO, instObj 199 dO) ∈ rest) (m3 : (a, tupO [.ref l, .ref r, .int S.behind t1, .int S.back t2, .int S.bra t3, .int S.ket t4] c0) ∈ rest) (m4 : (l, listOf (List.toArray vl) c1) ∈ rest) (m5 : (r, listOf (List.toArray vr) c2) ∈ rest) (m6 : (k, tupO [.ref kl, .ref kr, .int Sk.behind u1, .int Sk.back u2, .int Sk.bra u3, .int Sk.ket u4] c3) ∈ rest) (m7 : (kl, listOf (List.toArray wl) c4) ∈ rest) (m8 : (kr, listOf (List.toArray wr) c5) ∈ rest) (m9 : (nl, listOf (List.toArray nv) c6) ∈ rest) (m10 : (sg, listOf (List.toArray vs) c7) ∈ rest) (m11 : (rw, listOf (List.toArray vw) c8) ∈ rest) (hrT : ∀ p ∈ rest, p.1 ≠ dT) (hrO : ∀ p ∈ rest, p.1 ≠ dO)
    (hsize : size = S.l.length + S.r.length) (hlim : limit = size - S.behind) (hreach : reach = min limit size) (h0 : 0 ≤ low) (h1 : low ≤ high) (h2 : high ≤ reach) (X : (hd.heap_39 w.params).In h₀) :
    wpAny (model Challenge.rw_is0007_01.row.prog w) (callerA.deeper (lawEnv L fa ccd)) (exec chain (lawEnv L fa ccd)) (fun f s' => f = .next ∧ Mid w ns (j + 1) h₀ L I (krsIt i1 i2 i3) s s') E s := by
  revert X
  w_top off
  k_fill
  intro X
  have hs := (by (conv => lhs; whnf) : lawScope = _)
  have hb := (by (conv => lhs; whnf) : chain = _)
  unfold lawEnv
  rw [hs, hb]
  clear hs hb
  rename Fr _ _ _ _ => F8
  refine useF ?_ F8; clear F8; intro m9 F8
  have g1 := g.ol
  have g2 := g.or
  have g3 := g.len
  have hc : S.text.length = S.l.length + S.r.length := by rw [join_len (g1.app g2), List.length_append]
  have hrow : (S.l ++ S.r).length = S.l.length + S.r.length := List.length_append
  have gk3 := gk.len
  have hsg : (signs z).length = z.length := signs_length z
  have hne' : Apart dT dO := hne.symm
  have hck : Sk.text.length = Sk.l.length + Sk.r.length := by rw [join_len (gk.ol.app gk.or), List.length_append]
  k_steps
  refine Mid.mk' (frUpds (by k_asm) ⟨Eq.refl (some _), Eq.refl (some _), Eq.refl (some _), Eq.refl (some _), Eq.refl (some _), Eq.refl (some _), Eq.refl (some _), trivial⟩) (cb_drop (by assumption) (List.forall_mem_cons.mpr ⟨by k_mem, (List.forall_mem_cons.mpr ⟨by k_mem, (List.forall_mem_cons.mpr ⟨by k_mem, (List.forall_mem_cons.mpr ⟨by k_mem, (List.forall_mem_cons.mpr ⟨by k_mem, (List.forall_mem_cons.mpr ⟨by k_mem, (List.forall_mem_cons.mpr ⟨by k_mem, (List.forall_mem_cons.mpr ⟨by k_mem, (List.forall_mem_cons.mpr ⟨by k_mem, (List.forall_mem_cons.mpr ⟨by k_mem, (List.forall_mem_cons.mpr ⟨by k_mem, (List.forall_mem_cons.mpr ⟨by k_mem, List.forall_mem_nil _⟩)⟩)⟩)⟩)⟩)⟩)⟩)⟩)⟩)⟩)⟩)⟩)) (by first | assumption | exact .nil) (by assumption) (by assumption) (by assumption) (by assumption) (by assumption) ?_ ?_ ?_ ?_ ?_
  · exact .none
  · exact ⟨_, _, congrArg (stem w _ _) (law12 z)⟩
  · exact ⟨_, _, rfl⟩
  · exact good12 hz
  · exact gk.up
theorem words_S7a : True := by
  k_with_none
  k_with "eval Name" => ((k_here; k_dflt (refine' nameX_L ?zF9 ?zv9 ?_ ?za9 ?zb9; (case zF9 => k_asm); (case za9 => exact Eq.refl _); (case zb9 => exact Eq.refl (some _)); (case zv9 => exact Eq.refl (some _)); k_whole)))
  k_with "storeName" => ((k_here; k_dflt (refine' storeX_L ?zF9 ?zN9 ?_ ?za9 ?zb9; (case zF9 => k_asm); (case zN9 => k_asm); (case za9 => exact Eq.refl _); (case zb9 => exact Eq.refl (some _)); k_whole; intro h' F' N'; refine useF ?_ F'; clear F'; intro m9 F9; (try k_sweep))))
  k_with "execs cons" => ((k_here; (try dsimp only); refine tidy ?_; intro t9; (try k_fold); refine wpAny_execs_cons ?_))
  k_with "mem" => (first | ktr_member | exact List.Mem.head _ | (refine' mtail ?_; k_mem))
  k_with "ite" => ((k_here; first | (refine ite_neg ?zc9 ?_; (case zc9 => (simp; done))) | (refine ite_pos ?zc9 ?_; (case zc9 => (simp; done)))))
  k_with "call ref" => ((k_here; (with_reducible show wpAny _ _ (call (Value.ref 227) _) _ _ _); k_dflt (refine' same_spec ?zx9 ?zdd9 ?zaa9 ?zl9 ?zr9 ?zil9 ?zir9 ?zol9 ?zoo9 ?zh19 ?zh29 _ _ _ _ _ _ _ _ _ _ _ _ _ _ _ _ _ _ _ _ ?zB9 ?zF9 ?zX9 ?zN9 ?zT9 ?zk9 ?zd9 ?zu9 ?_; (case zB9 => k_asm); (case zF9 => k_asm); (case zX9 => k_asm); (case zN9 => k_asm); (case zT9 => k_asm); (case zk9 => first | exact rfl | assumption); (case zd9 => ktr_room); (case zu9 => ktr_units); (case zx9 => k_mem); (case zdd9 => k_mem); (case zaa9 => k_mem); (case zl9 => k_mem); (case zr9 => k_mem); (case zil9 => assumption); (case zir9 => assumption); (case zol9 => assumption); (case zoo9 => assumption); (case zh19 => (first | assumption | (dsimp only; lia) | lia)); (case zh29 => (first | assumption | (dsimp only; lia) | lia)); intro v9 n9 h9 tk9 hR F9 N9; obtain ⟨e9, e9'⟩ := hR; subst e9; subst e9'; (try simp only [List.cons_append, List.nil_append] at N9); (try dsimp only); (try k_sweep); (try k_fold))))
  trivial

theorem look {w : World} {ns : List Int} {j : Nat} {mean : ExcName → Option Value} {mg mb : Str → Option Value} {h₀ : Heap} {L I fa : Addr} {ccd : Value} {it : Obj} {s s' : Shared} {E : Value → Shared → Prop}
    (B : Below callerA h₀ [] h₀) (T : Top hd.view_39 (looseW hd.view_39 []) mean mg mb h₀) (hj : j ≤ 16) (hM : Mid w ns j h₀ L I it s s') (X : (hd.heap_39 w.params).In h₀) :
    wpAny (model Challenge.rw_is0007_01.row.prog w) (callerA.deeper (lawEnv L fa ccd)) (execs [lastIf] (lawEnv L fa ccd)) (fun f s'' => f = .next ∧ Next w ns j h₀ L I it s s'') E s' := by
  revert X
  w_top off
  k_fill
  intro X
  have hs := (by (conv => lhs; whnf) : lawScope = _)
  have hb := (by (conv => lhs; whnf) : lastIf = _)
  unfold lawEnv
  rw [hs, hb]
  clear hs hb
  obtain ⟨h', tk', m', xT, dT, xO, dO, a, l, r, k, kl, kr, nl, vl, vr, wl, wr, nv, oT, oO, t1, t2, t3, t4, u1, u2, u3, u4, c0, c1, c2, c3, c4, c5, c6, sl, sr, zl, zr, b1, b2, b3, b4, e1, e2, e3, e4, vt, vd, κ, τ, κ', τ', F, N, il, ir, jl, jr, iN, hne, hsame, hoT, hoO, g, gk⟩ := hM
  subst hoT hoO
  have g1 : Ones sl := g.ol
  have g2 : Ones sr := g.or
  have g3 : sl.length + sr.length ≤ 8 + 4 * j := g.len
  have gk1 : Ones zl := gk.ol
  have gk2 : Ones zr := gk.or
  have gk3 : zl.length + zr.length ≤ 8 + 4 * j := gk.len
  cases hsame
  all_goals
    k_steps
    exact Next.mk _ _ _ _ (by assumption) (cb_drop (by assumption) (List.forall_mem_cons.mpr ⟨by k_mem, (List.forall_mem_cons.mpr ⟨by k_mem, (List.forall_mem_cons.mpr ⟨by k_mem, (List.forall_mem_cons.mpr ⟨by k_mem, (List.forall_mem_cons.mpr ⟨by k_mem, (List.forall_mem_cons.mpr ⟨by k_mem, (List.forall_mem_cons.mpr ⟨by k_mem, (List.forall_mem_cons.mpr ⟨by k_mem, (List.forall_mem_cons.mpr ⟨by k_mem, (List.forall_mem_cons.mpr ⟨by k_mem, (List.forall_mem_cons.mpr ⟨by k_mem, (List.forall_mem_cons.mpr ⟨by k_mem, List.forall_mem_nil _⟩)⟩)⟩)⟩)⟩)⟩)⟩)⟩)⟩)⟩)⟩)⟩)) (Inv.mk' (S := ⟨sl, sr, b1, b2, b3, b4⟩) (Sk := ⟨zl, zr, e1, e2, e3, e4⟩) ⟨Eq.refl (some _), Eq.refl (some _), Eq.refl (some _), Eq.refl (some _), Eq.refl (some _), trivial⟩ il ir jl jr iN hne g gk)
theorem words_S8a : True := by
  k_with_none
  k_with "execs" => ((k_here; (try dsimp only); refine tidy ?_; intro t9; (try k_fold); refine wpAny_execs_cons ?_))
  k_with "eval Name" => ((k_here; k_dflt (refine' nameX_L ?zF9 ?zv9 ?_ ?za9 ?zb9; (case zF9 => k_asm); (case za9 => exact Eq.refl _); (case zb9 => exact Eq.refl (some _)); (case zv9 => exact Eq.refl (some _)); k_whole)))
  k_with "storeName" => ((k_here; k_dflt (refine' storeX_L ?zF9 ?zN9 ?_ ?za9 ?zb9; (case zF9 => k_asm); (case zN9 => k_asm); (case za9 => exact Eq.refl _); (case zb9 => exact Eq.refl (some _)); k_whole; intro h' F' N'; refine useF ?_ F'; clear F'; intro m9 F9; (try k_sweep))))
  k_with "execs cons" => ((k_here; (try dsimp only); refine tidy ?_; intro t9; (try k_fold); refine wpAny_execs_cons ?_))
  k_with "mem" => (first | ktr_member | exact List.Mem.head _ | (refine' mtail ?_; k_mem))
  k_with "subscriptTail Name Slice ref ref" => ((k_here; (with_reducible show wpAny _ _ (subscriptTail _ (PySem.Expr.Slice _ _ none _) (Value.ref _) (Value.ref _)) _ _ _); k_dflt (refine' sl_slice ?zF9 ?zN9 ?zl9 ?zp9 ?zq9 ?zi9 ?zz9 ?_ ?zs9 ?zt9; (case zF9 => k_asm); (case zN9 => k_asm); (case zl9 => k_mem); (case zp9 => kmk_part); (case zq9 => kmk_part); (case zi9 => with_reducible assumption); (case zz9 => first | assumption | lia | ((try simp only [List.length_append, List.length_cons, List.length_nil, signs_length]); lia) | ((try simp only [List.length_append, List.length_cons, List.length_nil, signs_length] at *); lia)); (case zs9 => with_unfolding_all rfl); (case zt9 => kmk_pure)); intro D' ws' h' F' N' l1 hI' hP'; (try k_lt l1); (try k_sweep); (try dsimp only)))
  k_with "binaryOp Add ref ref" => ((k_here; (with_reducible show wpAny _ _ (binaryOp _ (Value.ref _) (Value.ref _)) _ _ _); k_dflt (refine' sl_add ?zF9 ?zN9 ?zl9 ?zb9 ?zi9 ?zj9 ?zz9 ?_; (case zF9 => k_asm); (case zN9 => k_asm); (case zl9 => k_mem); (case zb9 => k_mem); (case zi9 => with_reducible assumption); (case zj9 => with_reducible assumption); (case zz9 => first | assumption | lia | ((try simp only [List.length_append, List.length_cons, List.length_nil, signs_length]); lia) | ((try simp only [List.length_append, List.length_cons, List.length_nil, signs_length] at *); lia))); intro D' ws' h' F' N' l1 hI'; (try k_lt l1); (try k_sweep); (try dsimp only)))
  k_with "call builtin:len" => ((k_here; (with_reducible show wpAny _ _ (call (Value.builtin "len") [Value.ref _]) _ _ _); k_dflt (refine' sl_len ?zN9 ?zl9 ?zi9 ?zz9 ?_; (case zN9 => k_asm); (case zl9 => k_mem); (case zi9 => first | with_reducible assumption | exact .nil); (case zz9 => first | assumption | lia | ((try simp only [List.length_append, List.length_cons, List.length_nil, signs_length]); lia) | ((try simp only [List.length_append, List.length_cons, List.length_nil, signs_length] at *); lia)))))
  k_with "call builtin:str.join" => ((k_here; (with_reducible show wpAny _ _ (call (Value.builtin _) [Value.str _ _, Value.ref _]) _ _ _); k_dflt (refine' sl_join ?zN9 ?zl9 ?zi9 ?zo9 ?zz9 ?_; (case zN9 => k_asm); (case zl9 => k_mem); (case zi9 => with_reducible assumption); (case zo9 => first | assumption | (refine Ones.app ?_ ?_ <;> assumption) | (refine Ones.pick (Ones.app ?_ ?_) _ _ <;> assumption)); (case zz9 => first | assumption | lia | ((try simp only [List.length_append, List.length_cons, List.length_nil, signs_length]); lia) | ((try simp only [List.length_append, List.length_cons, List.length_nil, signs_length] at *); lia))); intro _ _ _))
  k_with "call ref" => ((k_here; (with_reducible show wpAny _ _ (call (Value.ref 208) _) _ _ _); k_dflt (refine' text_spec  _ _ _ _ _ _ _ _ _ _ _ _ _ _ _ _ _ _ _ _ ?zB9 ?zF9 ?zX9 ?zN9 ?zT9 ?zk9 ?zd9 ?zu9 ?_; (case zB9 => k_asm); (case zF9 => k_asm); (case zX9 => k_asm); (case zN9 => k_asm); (case zT9 => k_asm); (case zk9 => first | exact rfl | assumption); (case zd9 => ktr_room); (case zu9 => ktr_units); intro v9 n9 h9 tk9 hR F9 N9; obtain ⟨z9, t9, e9, hz9, e9'⟩ := hR; subst e9; subst e9'; (try simp only [List.cons_append, List.nil_append] at N9); (try dsimp only); (try k_sweep); (try k_fold))))
  k_with "assign Tuple" => ((k_here; (with_reducible show wpAny _ _ (assign (Expr.Tuple _ _ _) _ (Value.ref _)) _ _ _); k_dflt (refine' unpackN_ ?zk19 ?zk29 ?zk39 ?zk49 ?zk59 ?zk69 ?_; (case zk19 => k_asm); (case zk29 => k_asm); (case zk39 => (refine' News.isTup ?zn9 ?zm9; (case zn9 => k_asm); (case zm9 => k_mem))); (case zk49 => exact rfl); (case zk59 => exact rfl); (case zk69 => exact rfl); k_whole); intro h' F' N'; (try k_sweep); (try dsimp only)))
  k_with "assign Tuple" => ((k_here; (with_reducible rename IntsAre _ (List.take _ (_ ++ _)) => h9); obtain ⟨a9, ta9, b9, tb9, c9, tc9, e9⟩ := three h9 (by (simp only [List.length_take, List.length_append, List.length_drop, List.length_cons, List.length_nil]; first | exact head_len (by assumption) (by assumption) | lia)); clear h9; subst e9; k_dflt (refine' kun_list ?zk19 ?zk29 ?zk39 ?zk49 ?zk59 ?zk69 ?_; (case zk19 => k_asm); (case zk29 => k_asm); (case zk39 => (refine' News.isList ?zn9 ?zm9; (case zn9 => k_asm); (case zm9 => k_mem))); (case zk49 => exact rfl); (case zk59 => exact rfl); (case zk69 => exact rfl); k_whole); intro h' F' N'; (try k_sweep); (try dsimp only)))
  k_with "execs" => ((k_here; (try dsimp only); gn_on))
  trivial

noncomputable def headBody : List Stmt := turnBody.take 13
/-- what lies between the turn's head and the deed -/
inductive Ready (w : World) (ns : List Int) (j : Nat) (h₀ : Heap) (L I : Addr) (i1 i2 i3 : Int) (s : Shared) : Shared → Prop
  | mk (rest : Led) (h' : Heap) (tk' : Nat) (m : Str → Option Value) (xT dT xO dO a l r k kl kr nl sg rw : Addr) (vl vr wl wr nv vs vw : List Value) (κ τ κ' τ' : Keys) (t1 t2 t3 t4 u1 u2 u3 u4 q0 q1 q2 q3 q4 q5 q6 q7 q8 : Tok) (c0 c1 c2 c3 c4 c5 c6 c7 c8 : Nat) (S Sk : St) (z : Str) (one two kind size limit reach low high : Int)
    (F : Fr h₀ L h' (upds [(Str.ofString "tool", .ref xT), (Str.ofString "other", .ref xO), (Str.ofString "mine", .ref a), (Str.ofString "kept", .ref k), (Str.ofString "numbers", .ref nl), (Str.ofString "one", .int one q0), (Str.ofString "two", .int two q1), (Str.ofString "kind", .int kind q2), (Str.ofString "text", .str z q3), (Str.ofString "signs", .ref sg), (Str.ofString "left", .ref l), (Str.ofString "right", .ref r), (Str.ofString "behind", .int S.behind t1), (Str.ofString "back", .int S.back t2), (Str.ofString "bra", .int S.bra t3), (Str.ofString "ket", .int S.ket t4), (Str.ofString "row", .ref rw), (Str.ofString "size", .int size q4), (Str.ofString "limit", .int limit q5), (Str.ofString "reach", .int reach q6), (Str.ofString "low", .int low q7), (Str.ofString "high", .int high q8), (Str.ofString "told", .none), (Str.ofString "due", .none)] m)) (N : News h₀ L h' ((dT, stem w κ τ (toolOf S)) :: (dO, stem w κ' τ' (toolOf Sk)) :: rest)) (m0 : (I, krsIt i1 i2 i3) ∈ rest) (m1 : (xT, instObj 199 dT) ∈ rest) (m2 : (xO, instObj 199 dO) ∈ rest) (m3 : (a, tupO [.ref l, .ref r, .int S.behind t1, .int S.back t2, .int S.bra t3, .int S.ket t4] c0) ∈ rest) (m4 : (l, listOf (List.toArray vl) c1) ∈ rest) (m5 : (r, listOf (List.toArray vr) c2) ∈ rest) (m6 : (k, tupO [.ref kl, .ref kr, .int Sk.behind u1, .int Sk.back u2, .int Sk.bra u3, .int Sk.ket u4] c3) ∈ rest) (m7 : (kl, listOf (List.toArray wl) c4) ∈ rest) (m8 : (kr, listOf (List.toArray wr) c5) ∈ rest) (m9 : (nl, listOf (List.toArray nv) c6) ∈ rest) (m10 : (sg, listOf (List.toArray vs) c7) ∈ rest) (m11 : (rw, listOf (List.toArray vw) c8) ∈ rest) (hrT : ∀ p ∈ rest, p.1 ≠ dT) (hrO : ∀ p ∈ rest, p.1 ≠ dO)
    (il : StrsAre vl S.l) (ir : StrsAre vr S.r) (jl : StrsAre wl Sk.l) (jr : StrsAre wr Sk.r) (iN : IntsAre nv ns) (is : StrsAre vs (signs z)) (iw : StrsAre vw (S.l ++ S.r)) (g : Good j S) (gk : Good j Sk) (hne : Apart dO dT) (hz : z.length ≤ 4)
    (hsize : size = S.l.length + S.r.length) (hlim : limit = size - S.behind) (hreach : reach = min limit size) (hlh : 0 ≤ low ∧ low ≤ high ∧ high ≤ reach) (hk0 : 0 ≤ kind) (hk1 : kind < 13) :
    Ready w ns j h₀ L I i1 i2 i3 s { s with heap := h', toks := tk' }

theorem Ready.mk' {w : World} {ns : List Int} {j : Nat} {h₀ : Heap} {L I : Addr} {i1 i2 i3 : Int} {s : Shared} (h' : Heap) (tk' : Nat) (m : Str → Option Value) (xT dT xO dO a l r k kl kr nl sg rw : Addr) (vl vr wl wr nv vs vw : List Value) (κ τ κ' τ' : Keys) (t1 t2 t3 t4 u1 u2 u3 u4 q0 q1 q2 q3 q4 q5 q6 q7 q8 : Tok) (c0 c1 c2 c3 c4 c5 c6 c7 c8 : Nat) (S Sk : St) (z : Str) (one two kind size limit reach low high : Int)
    (F : Fr h₀ L h' (upds [(Str.ofString "tool", .ref xT), (Str.ofString "other", .ref xO), (Str.ofString "mine", .ref a), (Str.ofString "kept", .ref k), (Str.ofString "numbers", .ref nl), (Str.ofString "one", .int one q0), (Str.ofString "two", .int two q1), (Str.ofString "kind", .int kind q2), (Str.ofString "text", .str z q3), (Str.ofString "signs", .ref sg), (Str.ofString "left", .ref l), (Str.ofString "right", .ref r), (Str.ofString "behind", .int S.behind t1), (Str.ofString "back", .int S.back t2), (Str.ofString "bra", .int S.bra t3), (Str.ofString "ket", .int S.ket t4), (Str.ofString "row", .ref rw), (Str.ofString "size", .int size q4), (Str.ofString "limit", .int limit q5), (Str.ofString "reach", .int reach q6), (Str.ofString "low", .int low q7), (Str.ofString "high", .int high q8), (Str.ofString "told", .none), (Str.ofString "due", .none)] m)) (N : News h₀ L h' [(I, krsIt i1 i2 i3), (xT, instObj 199 dT), (dT, stem w κ τ (toolOf S)), (xO, instObj 199 dO), (dO, stem w κ' τ' (toolOf Sk)), (a, tupO [.ref l, .ref r, .int S.behind t1, .int S.back t2, .int S.bra t3, .int S.ket t4] c0), (l, listOf (List.toArray vl) c1), (r, listOf (List.toArray vr) c2),
      (k, tupO [.ref kl, .ref kr, .int Sk.behind u1, .int Sk.back u2, .int Sk.bra u3, .int Sk.ket u4] c3), (kl, listOf (List.toArray wl) c4), (kr, listOf (List.toArray wr) c5), (nl, listOf (List.toArray nv) c6), (sg, listOf (List.toArray vs) c7), (rw, listOf (List.toArray vw) c8)])
    (il : StrsAre vl S.l) (ir : StrsAre vr S.r) (jl : StrsAre wl Sk.l) (jr : StrsAre wr Sk.r) (iN : IntsAre nv ns) (is : StrsAre vs (signs z)) (iw : StrsAre vw (S.l ++ S.r)) (g : Good j S) (gk : Good j Sk) (hne : Apart dO dT) (hz : z.length ≤ 4)
    (hsize : size = S.l.length + S.r.length) (hlim : limit = size - S.behind) (hreach : reach = min limit size) (hlh : 0 ≤ low ∧ low ≤ high ∧ high ≤ reach) (hk0 : 0 ≤ kind) (hk1 : kind < 13) :
    Ready w ns j h₀ L I i1 i2 i3 s { s with heap := h', toks := tk' } := by
  have hc : ∀ p ∈ ([(I, krsIt i1 i2 i3), (xT, instObj 199 dT), (xO, instObj 199 dO), (a, tupO [.ref l, .ref r, .int S.behind t1, .int S.back t2, .int S.bra t3, .int S.ket t4] c0), (l, listOf (List.toArray vl) c1), (r, listOf (List.toArray vr) c2), (k, tupO [.ref kl, .ref kr, .int Sk.behind u1, .int Sk.back u2, .int Sk.bra u3, .int Sk.ket u4] c3), (kl, listOf (List.toArray wl) c4), (kr, listOf (List.toArray wr) c5), (nl, listOf (List.toArray nv) c6), (sg, listOf (List.toArray vs) c7), (rw, listOf (List.toArray vw) c8)] : Led), p.2.cls ≠ .type "dict" := (List.forall_mem_cons.mpr ⟨(by first | (intro e9; cases e9; done) | (intro e9; injection e9 with e9; exact absurd e9 (by decide))), (List.forall_mem_cons.mpr ⟨(by first | (intro e9; cases e9; done) | (intro e9; injection e9 with e9; exact absurd e9 (by decide))), (List.forall_mem_cons.mpr ⟨(by first | (intro e9; cases e9; done) | (intro e9; injection e9 with e9; exact absurd e9 (by decide))), (List.forall_mem_cons.mpr ⟨(by first | (intro e9; cases e9; done) | (intro e9; injection e9 with e9; exact absurd e9 (by decide))), (List.forall_mem_cons.mpr ⟨(by first | (intro e9; cases e9; done) | (intro e9; injection e9 with e9; exact absurd e9 (by decide))), (List.forall_mem_cons.mpr ⟨(by first | (intro e9; cases e9; done) | (intro e9; injection e9 with e9; exact absurd e9 (by decide))), (List.forall_mem_cons.mpr ⟨(by first | (intro e9; cases e9; done) | (intro e9; injection e9 with e9; exact absurd e9 (by decide))), (List.forall_mem_cons.mpr ⟨(by first | (intro e9; cases e9; done) | (intro e9; injection e9 with e9; exact absurd e9 (by decide))), (List.forall_mem_cons.mpr ⟨(by first | (intro e9; cases e9; done) | (intro e9; injection e9 with e9; exact absurd e9 (by decide))), (List.forall_mem_cons.mpr ⟨(by first | (intro e9; cases e9; done) | (intro e9; injection e9 with e9; exact absurd e9 (by decide))), (List.forall_mem_cons.mpr ⟨(by first | (intro e9; cases e9; done) | (intro e9; injection e9 with e9; exact absurd e9 (by decide))), (List.forall_mem_cons.mpr ⟨(by first | (intro e9; cases e9; done) | (intro e9; injection e9 with e9; exact absurd e9 (by decide))), List.forall_mem_nil _⟩)⟩)⟩)⟩)⟩)⟩)⟩)⟩)⟩)⟩)⟩)⟩)
  have hT : (dT, stem w κ τ (toolOf S)) ∈ ([(I, krsIt i1 i2 i3), (xT, instObj 199 dT), (dT, stem w κ τ (toolOf S)), (xO, instObj 199 dO), (dO, stem w κ' τ' (toolOf Sk)), (a, tupO [.ref l, .ref r, .int S.behind t1, .int S.back t2, .int S.bra t3, .int S.ket t4] c0), (l, listOf (List.toArray vl) c1), (r, listOf (List.toArray vr) c2),
      (k, tupO [.ref kl, .ref kr, .int Sk.behind u1, .int Sk.back u2, .int Sk.bra u3, .int Sk.ket u4] c3), (kl, listOf (List.toArray wl) c4), (kr, listOf (List.toArray wr) c5), (nl, listOf (List.toArray nv) c6), (sg, listOf (List.toArray vs) c7), (rw, listOf (List.toArray vw) c8)] : Led) := by k_mem
  have hO : (dO, stem w κ' τ' (toolOf Sk)) ∈ ([(I, krsIt i1 i2 i3), (xT, instObj 199 dT), (dT, stem w κ τ (toolOf S)), (xO, instObj 199 dO), (dO, stem w κ' τ' (toolOf Sk)), (a, tupO [.ref l, .ref r, .int S.behind t1, .int S.back t2, .int S.bra t3, .int S.ket t4] c0), (l, listOf (List.toArray vl) c1), (r, listOf (List.toArray vr) c2),
      (k, tupO [.ref kl, .ref kr, .int Sk.behind u1, .int Sk.back u2, .int Sk.bra u3, .int Sk.ket u4] c3), (kl, listOf (List.toArray wl) c4), (kr, listOf (List.toArray wr) c5), (nl, listOf (List.toArray nv) c6), (sg, listOf (List.toArray vs) c7), (rw, listOf (List.toArray vw) c8)] : Led) := by k_mem
  have hs : ∀ p ∈ ([(I, krsIt i1 i2 i3), (xT, instObj 199 dT), (xO, instObj 199 dO), (a, tupO [.ref l, .ref r, .int S.behind t1, .int S.back t2, .int S.bra t3, .int S.ket t4] c0), (l, listOf (List.toArray vl) c1), (r, listOf (List.toArray vr) c2), (k, tupO [.ref kl, .ref kr, .int Sk.behind u1, .int Sk.back u2, .int Sk.bra u3, .int Sk.ket u4] c3), (kl, listOf (List.toArray wl) c4), (kr, listOf (List.toArray wr) c5), (nl, listOf (List.toArray nv) c6), (sg, listOf (List.toArray vs) c7), (rw, listOf (List.toArray vw) c8)] : Led), p ∈ ([(I, krsIt i1 i2 i3), (xT, instObj 199 dT), (dT, stem w κ τ (toolOf S)), (xO, instObj 199 dO), (dO, stem w κ' τ' (toolOf Sk)), (a, tupO [.ref l, .ref r, .int S.behind t1, .int S.back t2, .int S.bra t3, .int S.ket t4] c0), (l, listOf (List.toArray vl) c1), (r, listOf (List.toArray vr) c2),
      (k, tupO [.ref kl, .ref kr, .int Sk.behind u1, .int Sk.back u2, .int Sk.bra u3, .int Sk.ket u4] c3), (kl, listOf (List.toArray wl) c4), (kr, listOf (List.toArray wr) c5), (nl, listOf (List.toArray nv) c6), (sg, listOf (List.toArray vs) c7), (rw, listOf (List.toArray vw) c8)] : Led) := (List.forall_mem_cons.mpr ⟨by k_mem, (List.forall_mem_cons.mpr ⟨by k_mem, (List.forall_mem_cons.mpr ⟨by k_mem, (List.forall_mem_cons.mpr ⟨by k_mem, (List.forall_mem_cons.mpr ⟨by k_mem, (List.forall_mem_cons.mpr ⟨by k_mem, (List.forall_mem_cons.mpr ⟨by k_mem, (List.forall_mem_cons.mpr ⟨by k_mem, (List.forall_mem_cons.mpr ⟨by k_mem, (List.forall_mem_cons.mpr ⟨by k_mem, (List.forall_mem_cons.mpr ⟨by k_mem, (List.forall_mem_cons.mpr ⟨by k_mem, List.forall_mem_nil _⟩)⟩)⟩)⟩)⟩)⟩)⟩)⟩)⟩)⟩)⟩)⟩)
  exact Ready.mk [(I, krsIt i1 i2 i3), (xT, instObj 199 dT), (xO, instObj 199 dO), (a, tupO [.ref l, .ref r, .int S.behind t1, .int S.back t2, .int S.bra t3, .int S.ket t4] c0), (l, listOf (List.toArray vl) c1), (r, listOf (List.toArray vr) c2), (k, tupO [.ref kl, .ref kr, .int Sk.behind u1, .int Sk.back u2, .int Sk.bra u3, .int Sk.ket u4] c3), (kl, listOf (List.toArray wl) c4), (kr, listOf (List.toArray wr) c5), (nl, listOf (List.toArray nv) c6), (sg, listOf (List.toArray vs) c7), (rw, listOf (List.toArray vw) c8)] h' tk' m xT dT xO dO a l r k kl kr nl sg rw vl vr wl wr nv vs vw κ τ κ' τ' t1 t2 t3 t4 u1 u2 u3 u4 q0 q1 q2 q3 q4 q5 q6 q7 q8 c0 c1 c2 c3 c4 c5 c6 c7 c8 S Sk z one two kind size limit reach low high F (cb_drop N (List.forall_mem_cons.mpr ⟨hT, List.forall_mem_cons.mpr ⟨hO, hs⟩⟩)) (by k_mem) (by k_mem) (by k_mem) (by k_mem) (by k_mem) (by k_mem) (by k_mem) (by k_mem) (by k_mem) (by k_mem) (by k_mem) (by k_mem) (fun p hp => ne_of_cls N (hs p hp) hT (hc p hp)) (fun p hp => ne_of_cls N (hs p hp) hO (hc p hp)) il ir jl jr iN is iw g gk hne hz hsize hlim hreach hlh hk0 hk1

theorem reach_ok {l r : List Str} {b : Int} (hb : b ≤ l.length + r.length) : 0 ≤ (if ((l ++ r).length : Int) < (l ++ r).length - b then ((l ++ r).length : Int) else (l ++ r).length - b) := by
  have ha : (l ++ r).length = l.length + r.length := List.length_append
  split <;> lia
theorem reach_bad {l r : List Str} {b : Int} (h : (if ((l ++ r).length : Int) < (l ++ r).length - b then ((l ++ r).length : Int) else (l ++ r).length - b) + 1 = 0) (hb : b ≤ l.length + r.length) : False := by
  have := reach_ok hb
  lia
theorem high_bad {l r : List Str} {b x : Int} (h : (if ((l ++ r).length : Int) < (l ++ r).length - b then ((l ++ r).length : Int) else (l ++ r).length - b) - x.fmod ((if ((l ++ r).length : Int) < (l ++ r).length - b then ((l ++ r).length : Int) else (l ++ r).length - b) + 1) + 1 = 0) (hb : b ≤ l.length + r.length) : False := by
  have h1 := reach_ok hb
  revert h h1
  generalize (if ((l ++ r).length : Int) < (l ++ r).length - b then ((l ++ r).length : Int) else (l ++ r).length - b) = R
  intro h h1
  have h2 := fm_hi x (n := R + 1) (by lia)
  lia
theorem reach_min {a b : Int} : (if a < a - b then a else a - b) = min (a - b) a := by
  split <;> lia
theorem high_ok {R x y : Int} (h : 0 ≤ R) : 0 ≤ x.fmod (R + 1) ∧ x.fmod (R + 1) ≤ x.fmod (R + 1) + y.fmod (R - x.fmod (R + 1) + 1) ∧ x.fmod (R + 1) + y.fmod (R - x.fmod (R + 1) + 1) ≤ R := by
  have p1 : 0 < R + 1 := Int.lt_add_one_of_le h
  have h1 := fm_lo x p1
  have h2 := Int.sub_nonneg_of_le (Int.lt_add_one_iff.mp (fm_hi x p1))
  have p2 := Int.lt_add_one_of_le h2
  have h4 := Int.lt_add_one_iff.mp (fm_hi y p2)
  exact ⟨h1, Int.le_add_of_nonneg_right (fm_lo y p2), by rw [Int.add_comm]; exact Int.add_le_of_le_sub_right h4⟩
theorem head_len {v : Int} {n : Nat} (h0 : 0 ≤ v) (h1 : v < n) : min 3 (min (min (v + 3).toNat n - v.toNat) (n - v.toNat) + (0 + 1 + 1)) = 3 := by
  obtain ⟨a, rfl⟩ := Int.eq_ofNat_of_zero_le h0
  have h : 1 + a ≤ n := Nat.add_comm 1 a ▸ Int.ofNat_lt.mp h1
  have e : ((a : Int) + 3).toNat = a + 3 := rfl
  rw [e, Int.toNat_natCast]
  exact Nat.min_eq_left (Nat.succ_le_succ (Nat.succ_le_succ (Nat.le_min.mpr ⟨Nat.le_sub_of_add_le (Nat.le_min.mpr ⟨Nat.add_comm 1 a ▸ Nat.add_le_add_left (by decide) a, h⟩), Nat.le_sub_of_add_le h⟩)))

noncomputable def head0Body : List Stmt := turnBody.take 1
noncomputable def head1Body : List Stmt := headBody.drop 1
/-- behind the turn's first statement: three ints; what it made on its way is dropped -/
inductive Got (h₀ : Heap) (L : Addr) (m : Str → Option Value) (news : Led) (s : Shared) : Shared → Prop
  | mk (h' : Heap) (tk' : Nat) (a b c : Int) (ta tb tc : Tok) (F : Fr h₀ L h' (upds [(Str.ofString "two", .int c tc), (Str.ofString "one", .int b tb), (Str.ofString "head", .int a ta)] m)) (N : News h₀ L h' news) :
    Got h₀ L m news s { s with heap := h', toks := tk' }
theorem head0 {w : World} {ns : List Int} {mean : ExcName → Option Value} {mg mb m : Str → Option Value} {h₀ : Heap} {L fa nl : Addr} {ccd : Value} {v : Int} {tv : Tok} {nv : List Value} {c6 : Nat} {s : Shared} {E : Value → Shared → Prop} {news : Led}
    (B : Below callerA h₀ [] h₀) (T : Top hd.view_39 (looseW hd.view_39 []) mean mg mb h₀) (iN : IntsAre nv ns) (h0 : 0 ≤ v) (h1 : v < ns.length) (hn : ns.length ≤ 45) (mN : (nl, listOf (List.toArray nv) c6) ∈ news)
    (F : Fr h₀ L s.heap (upds [(Str.ofString "at", .int v tv), (Str.ofString "numbers", .ref nl)] m)) (N : News h₀ L s.heap news) (X : (hd.heap_39 w.params).In h₀) :
    wpAny (model Challenge.rw_is0007_01.row.prog w) (callerA.deeper (lawEnv L fa ccd)) (execs head0Body (lawEnv L fa ccd)) (fun f s' => f = .next ∧ Got h₀ L (upds [(Str.ofString "at", .int v tv), (Str.ofString "numbers", .ref nl)] m) news s s') E s := by
  revert X
  w_top off
  k_fill
  intro X
  have hs := (by (conv => lhs; whnf) : lawScope = _)
  have hb := (by (conv => lhs; whnf) : head0Body = _)
  unfold lawEnv
  rw [hs, hb]
  clear hs hb
  k_steps
  (show wpAny _ _ (execs [] _) _ _ _)
  refine wpAny_execs_nil ?_
  (try dsimp only)
  (rename Fr _ _ _ _ => F9)
  (rename News _ _ _ _ => N9)
  exact And.intro rfl (Got.mk _ _ _ _ _ _ _ _ F9 (cb_drop N9 (fun p hp => by repeat' (first | exact hp | refine mtail ?_))))

theorem head1 {w : World} {ns : List Int} {j : Nat} {mean : ExcName → Option Value} {mg mb m : Str → Option Value} {h₀ : Heap} {L I fa : Addr} {ccd : Value} {i1 i2 i3 hh one two : Int} {q9 q0 q1 : Tok} {s : Shared} {E : Value → Shared → Prop} {news : Led}
    (B : Below callerA h₀ [] h₀) (T : Top hd.view_39 (looseW hd.view_39 []) mean mg mb h₀) (hj : j ≤ 15) (hI : Inv w ns j m news)
    (F : Fr h₀ L s.heap (upds [(Str.ofString "two", .int two q1), (Str.ofString "one", .int one q0), (Str.ofString "head", .int hh q9)] m)) (N : News h₀ L s.heap ((I, krsIt i1 i2 i3) :: news)) (X : (hd.heap_39 w.params).In h₀) :
    wpAny (model Challenge.rw_is0007_01.row.prog w) (callerA.deeper (lawEnv L fa ccd)) (execs head1Body (lawEnv L fa ccd)) (fun f s' => f = .next ∧ Ready w ns j h₀ L I i1 i2 i3 s s') E s := by
  revert X
  w_top off
  k_fill
  intro X
  have hs := (by (conv => lhs; whnf) : lawScope = _)
  have hb := (by (conv => lhs; whnf) : head1Body = _)
  unfold lawEnv
  rw [hs, hb]
  clear hs hb
  obtain ⟨xT, dT, xO, dO, a, l, r, k, kl, kr, nl, vl, vr, wl, wr, nv, κ, τ, κ', τ', t1, t2, t3, t4, u1, u2, u3, u4, c0, c1, c2, c3, c4, c5, c6, S, Sk, hU, il, ir, jl, jr, iN, hne, g, gk⟩ := hI
  rw [← upds_self hU] at F
  have m0 : (I, krsIt i1 i2 i3) ∈ ([(I, krsIt i1 i2 i3), (xT, instObj 199 dT), (dT, stem w κ τ (toolOf S)), (xO, instObj 199 dO), (dO, stem w κ' τ' (toolOf Sk)), (a, tupO [.ref l, .ref r, .int S.behind t1, .int S.back t2, .int S.bra t3, .int S.ket t4] c0), (l, listOf (List.toArray vl) c1), (r, listOf (List.toArray vr) c2), (k, tupO [.ref kl, .ref kr, .int Sk.behind u1, .int Sk.back u2, .int Sk.bra u3, .int Sk.ket u4] c3), (kl, listOf (List.toArray wl) c4), (kr, listOf (List.toArray wr) c5), (nl, listOf (List.toArray nv) c6)] : Led) := by k_mem
  have m1 : (xT, instObj 199 dT) ∈ ([(I, krsIt i1 i2 i3), (xT, instObj 199 dT), (dT, stem w κ τ (toolOf S)), (xO, instObj 199 dO), (dO, stem w κ' τ' (toolOf Sk)), (a, tupO [.ref l, .ref r, .int S.behind t1, .int S.back t2, .int S.bra t3, .int S.ket t4] c0), (l, listOf (List.toArray vl) c1), (r, listOf (List.toArray vr) c2), (k, tupO [.ref kl, .ref kr, .int Sk.behind u1, .int Sk.back u2, .int Sk.bra u3, .int Sk.ket u4] c3), (kl, listOf (List.toArray wl) c4), (kr, listOf (List.toArray wr) c5), (nl, listOf (List.toArray nv) c6)] : Led) := by k_mem
  have m2 : (dT, stem w κ τ (toolOf S)) ∈ ([(I, krsIt i1 i2 i3), (xT, instObj 199 dT), (dT, stem w κ τ (toolOf S)), (xO, instObj 199 dO), (dO, stem w κ' τ' (toolOf Sk)), (a, tupO [.ref l, .ref r, .int S.behind t1, .int S.back t2, .int S.bra t3, .int S.ket t4] c0), (l, listOf (List.toArray vl) c1), (r, listOf (List.toArray vr) c2), (k, tupO [.ref kl, .ref kr, .int Sk.behind u1, .int Sk.back u2, .int Sk.bra u3, .int Sk.ket u4] c3), (kl, listOf (List.toArray wl) c4), (kr, listOf (List.toArray wr) c5), (nl, listOf (List.toArray nv) c6)] : Led) := by k_mem
  have m3 : (xO, instObj 199 dO) ∈ ([(I, krsIt i1 i2 i3), (xT, instObj 199 dT), (dT, stem w κ τ (toolOf S)), (xO, instObj 199 dO), (dO, stem w κ' τ' (toolOf Sk)), (a, tupO [.ref l, .ref r, .int S.behind t1, .int S.back t2, .int S.bra t3, .int S.ket t4] c0), (l, listOf (List.toArray vl) c1), (r, listOf (List.toArray vr) c2), (k, tupO [.ref kl, .ref kr, .int Sk.behind u1, .int Sk.back u2, .int Sk.bra u3, .int Sk.ket u4] c3), (kl, listOf (List.toArray wl) c4), (kr, listOf (List.toArray wr) c5), (nl, listOf (List.toArray nv) c6)] : Led) := by k_mem
  have m4 : (dO, stem w κ' τ' (toolOf Sk)) ∈ ([(I, krsIt i1 i2 i3), (xT, instObj 199 dT), (dT, stem w κ τ (toolOf S)), (xO, instObj 199 dO), (dO, stem w κ' τ' (toolOf Sk)), (a, tupO [.ref l, .ref r, .int S.behind t1, .int S.back t2, .int S.bra t3, .int S.ket t4] c0), (l, listOf (List.toArray vl) c1), (r, listOf (List.toArray vr) c2), (k, tupO [.ref kl, .ref kr, .int Sk.behind u1, .int Sk.back u2, .int Sk.bra u3, .int Sk.ket u4] c3), (kl, listOf (List.toArray wl) c4), (kr, listOf (List.toArray wr) c5), (nl, listOf (List.toArray nv) c6)] : Led) := by k_mem
  have m5 : (a, tupO [.ref l, .ref r, .int S.behind t1, .int S.back t2, .int S.bra t3, .int S.ket t4] c0) ∈ ([(I, krsIt i1 i2 i3), (xT, instObj 199 dT), (dT, stem w κ τ (toolOf S)), (xO, instObj 199 dO), (dO, stem w κ' τ' (toolOf Sk)), (a, tupO [.ref l, .ref r, .int S.behind t1, .int S.back t2, .int S.bra t3, .int S.ket t4] c0), (l, listOf (List.toArray vl) c1), (r, listOf (List.toArray vr) c2), (k, tupO [.ref kl, .ref kr, .int Sk.behind u1, .int Sk.back u2, .int Sk.bra u3, .int Sk.ket u4] c3), (kl, listOf (List.toArray wl) c4), (kr, listOf (List.toArray wr) c5), (nl, listOf (List.toArray nv) c6)] : Led) := by k_mem
  have m6 : (l, listOf (List.toArray vl) c1) ∈ ([(I, krsIt i1 i2 i3), (xT, instObj 199 dT), (dT, stem w κ τ (toolOf S)), (xO, instObj 199 dO), (dO, stem w κ' τ' (toolOf Sk)), (a, tupO [.ref l, .ref r, .int S.behind t1, .int S.back t2, .int S.bra t3, .int S.ket t4] c0), (l, listOf (List.toArray vl) c1), (r, listOf (List.toArray vr) c2), (k, tupO [.ref kl, .ref kr, .int Sk.behind u1, .int Sk.back u2, .int Sk.bra u3, .int Sk.ket u4] c3), (kl, listOf (List.toArray wl) c4), (kr, listOf (List.toArray wr) c5), (nl, listOf (List.toArray nv) c6)] : Led) := by k_mem
  have m7 : (r, listOf (List.toArray vr) c2) ∈ ([(I, krsIt i1 i2 i3), (xT, instObj 199 dT), (dT, stem w κ τ (toolOf S)), (xO, instObj 199 dO), (dO, stem w κ' τ' (toolOf Sk)), (a, tupO [.ref l, .ref r, .int S.behind t1, .int S.back t2, .int S.bra t3, .int S.ket t4] c0), (l, listOf (List.toArray vl) c1), (r, listOf (List.toArray vr) c2), (k, tupO [.ref kl, .ref kr, .int Sk.behind u1, .int Sk.back u2, .int Sk.bra u3, .int Sk.ket u4] c3), (kl, listOf (List.toArray wl) c4), (kr, listOf (List.toArray wr) c5), (nl, listOf (List.toArray nv) c6)] : Led) := by k_mem
  have m8 : (k, tupO [.ref kl, .ref kr, .int Sk.behind u1, .int Sk.back u2, .int Sk.bra u3, .int Sk.ket u4] c3) ∈ ([(I, krsIt i1 i2 i3), (xT, instObj 199 dT), (dT, stem w κ τ (toolOf S)), (xO, instObj 199 dO), (dO, stem w κ' τ' (toolOf Sk)), (a, tupO [.ref l, .ref r, .int S.behind t1, .int S.back t2, .int S.bra t3, .int S.ket t4] c0), (l, listOf (List.toArray vl) c1), (r, listOf (List.toArray vr) c2), (k, tupO [.ref kl, .ref kr, .int Sk.behind u1, .int Sk.back u2, .int Sk.bra u3, .int Sk.ket u4] c3), (kl, listOf (List.toArray wl) c4), (kr, listOf (List.toArray wr) c5), (nl, listOf (List.toArray nv) c6)] : Led) := by k_mem
  have m9 : (kl, listOf (List.toArray wl) c4) ∈ ([(I, krsIt i1 i2 i3), (xT, instObj 199 dT), (dT, stem w κ τ (toolOf S)), (xO, instObj 199 dO), (dO, stem w κ' τ' (toolOf Sk)), (a, tupO [.ref l, .ref r, .int S.behind t1, .int S.back t2, .int S.bra t3, .int S.ket t4] c0), (l, listOf (List.toArray vl) c1), (r, listOf (List.toArray vr) c2), (k, tupO [.ref kl, .ref kr, .int Sk.behind u1, .int Sk.back u2, .int Sk.bra u3, .int Sk.ket u4] c3), (kl, listOf (List.toArray wl) c4), (kr, listOf (List.toArray wr) c5), (nl, listOf (List.toArray nv) c6)] : Led) := by k_mem
  have m10 : (kr, listOf (List.toArray wr) c5) ∈ ([(I, krsIt i1 i2 i3), (xT, instObj 199 dT), (dT, stem w κ τ (toolOf S)), (xO, instObj 199 dO), (dO, stem w κ' τ' (toolOf Sk)), (a, tupO [.ref l, .ref r, .int S.behind t1, .int S.back t2, .int S.bra t3, .int S.ket t4] c0), (l, listOf (List.toArray vl) c1), (r, listOf (List.toArray vr) c2), (k, tupO [.ref kl, .ref kr, .int Sk.behind u1, .int Sk.back u2, .int Sk.bra u3, .int Sk.ket u4] c3), (kl, listOf (List.toArray wl) c4), (kr, listOf (List.toArray wr) c5), (nl, listOf (List.toArray nv) c6)] : Led) := by k_mem
  have m11 : (nl, listOf (List.toArray nv) c6) ∈ ([(I, krsIt i1 i2 i3), (xT, instObj 199 dT), (dT, stem w κ τ (toolOf S)), (xO, instObj 199 dO), (dO, stem w κ' τ' (toolOf Sk)), (a, tupO [.ref l, .ref r, .int S.behind t1, .int S.back t2, .int S.bra t3, .int S.ket t4] c0), (l, listOf (List.toArray vl) c1), (r, listOf (List.toArray vr) c2), (k, tupO [.ref kl, .ref kr, .int Sk.behind u1, .int Sk.back u2, .int Sk.bra u3, .int Sk.ket u4] c3), (kl, listOf (List.toArray wl) c4), (kr, listOf (List.toArray wr) c5), (nl, listOf (List.toArray nv) c6)] : Led) := by k_mem
  generalize ([(I, krsIt i1 i2 i3), (xT, instObj 199 dT), (dT, stem w κ τ (toolOf S)), (xO, instObj 199 dO), (dO, stem w κ' τ' (toolOf Sk)), (a, tupO [.ref l, .ref r, .int S.behind t1, .int S.back t2, .int S.bra t3, .int S.ket t4] c0), (l, listOf (List.toArray vl) c1), (r, listOf (List.toArray vr) c2), (k, tupO [.ref kl, .ref kr, .int Sk.behind u1, .int Sk.back u2, .int Sk.bra u3, .int Sk.ket u4] c3), (kl, listOf (List.toArray wl) c4), (kr, listOf (List.toArray wr) c5), (nl, listOf (List.toArray nv) c6)] : Led) = news9 at N m0 m1 m2 m3 m4 m5 m6 m7 m8 m9 m10 m11
  have g1 := g.ol
  have g2 := g.or
  have g3 := g.len
  have g4 := g.beh
  k_steps
  all_goals first | (exfalso; first | exact reach_bad (by assumption) g4 | exact high_bad (by assumption) g4) | skip
  (show wpAny _ _ (execs [] _) _ _ _)
  refine wpAny_execs_nil ?_
  (try dsimp only)
  (rename Fr _ _ _ _ => F9)
  (rename News _ _ _ _ => N9)
  refine' And.intro rfl (Ready.mk' _ _ _ xT dT xO dO a l r k kl kr nl _ _ vl vr wl wr nv _ _ κ τ κ' τ' t1 t2 t3 t4 u1 u2 u3 u4 _ _ _ _ _ _ _ _ _ c0 c1 c2 c3 c4 c5 c6 _ _ S Sk _ _ _ _ _ _ _ _ _ (frUpds F9 ⟨?b0, ?b1, ?b2, ?b3, ?b4, ?b5, ?b6, ?b7, ?b8, ?b9, ?b10, ?b11, ?b12, ?b13, ?b14, ?b15, ?b16, ?b17, ?b18, ?b19, ?b20, ?b21, ?b22, ?b23, trivial⟩) (cb_drop N9 ?hN) il ir jl jr iN ?hC ?hW g gk hne ?hz ?e1 ?e2 ?e3 ?e4 ?f1 ?f2)
  case b0 => exact Eq.refl (some _)
  case b1 => exact Eq.refl (some _)
  case b2 => exact Eq.refl (some _)
  case b3 => exact Eq.refl (some _)
  case b4 => exact Eq.refl (some _)
  case b5 => exact Eq.refl (some _)
  case b6 => exact Eq.refl (some _)
  case b7 => exact Eq.refl (some _)
  case b8 => exact Eq.refl (some _)
  case b9 => exact Eq.refl (some _)
  case b10 => exact Eq.refl (some _)
  case b11 => exact Eq.refl (some _)
  case b12 => exact Eq.refl (some _)
  case b13 => exact Eq.refl (some _)
  case b14 => exact Eq.refl (some _)
  case b15 => exact Eq.refl (some _)
  case b16 => exact Eq.refl (some _)
  case b17 => exact Eq.refl (some _)
  case b18 => exact Eq.refl (some _)
  case b19 => exact Eq.refl (some _)
  case b20 => exact Eq.refl (some _)
  case b21 => exact Eq.refl (some _)
  case b22 => exact Eq.refl (some _)
  case b23 => exact Eq.refl (some _)
  case hN => exact (List.forall_mem_cons.mpr ⟨by k_mem, (List.forall_mem_cons.mpr ⟨by k_mem, (List.forall_mem_cons.mpr ⟨by k_mem, (List.forall_mem_cons.mpr ⟨by k_mem, (List.forall_mem_cons.mpr ⟨by k_mem, (List.forall_mem_cons.mpr ⟨by k_mem, (List.forall_mem_cons.mpr ⟨by k_mem, (List.forall_mem_cons.mpr ⟨by k_mem, (List.forall_mem_cons.mpr ⟨by k_mem, (List.forall_mem_cons.mpr ⟨by k_mem, (List.forall_mem_cons.mpr ⟨by k_mem, (List.forall_mem_cons.mpr ⟨by k_mem, (List.forall_mem_cons.mpr ⟨by k_mem, (List.forall_mem_cons.mpr ⟨by k_mem, List.forall_mem_nil _⟩)⟩)⟩)⟩)⟩)⟩)⟩)⟩)⟩)⟩)⟩)⟩)⟩)⟩)
  case hC => exact strs_of_comp (by assumption)
  case hW => assumption
  case hz => assumption
  case e1 => rw [List.length_append]; exact Int.natCast_add _ _
  case e2 => rfl
  case e3 => exact reach_min
  case e4 => exact high_ok (reach_ok g4)
  case f1 => exact fm_lo _ (by decide)
  case f2 => exact fm_hi _ (by decide)
theorem words_S9a : True := by
  k_with_none
  k_with "mem" => (first | ktr_member | exact List.Mem.head _ | (refine' mtail ?_; k_mem))
  trivial

theorem wp_split {M : Model} {A : Around} {env : Env} {ys : List Stmt} {Q : Flow → Shared → Prop} {E : Value → Shared → Prop} (Γ : Ctx) (hΓ : Γ.In A) : ∀ (xs : List Stmt) (p : Pos) (s : Shared),
    PySem.Sem.wp M Γ (execs xs env) (fun f _ s' => f = .next ∧ wpAny M A (execs ys env) Q E s') (fun e _ s' => E e s') p s → PySem.Sem.wp M Γ (execs (xs ++ ys) env) (fun f _ s' => Q f s') (fun e _ s' => E e s') p s
  | [], p, s, h => h.2 Γ p hΓ
  | x :: xs, p, s, h => by
    have h1 : PySem.Sem.wp M Γ (exec x env >>= fun f => match f with | .next => execs xs env | f => pure f) (fun f _ s' => f = .next ∧ wpAny M A (execs ys env) Q E s') (fun e _ s' => E e s') p s := h
    show PySem.Sem.wp M Γ (exec x env >>= fun f => match f with | .next => execs (xs ++ ys) env | f => pure f) (fun f _ s' => Q f s') (fun e _ s' => E e s') p s
    rw [Sem.wp_bind'] at h1 ⊢
    refine Sem.wp_mono M Γ _ (fun f p' s' hf => ?_) (fun _ _ _ h' => h') p s h1
    cases f with
    | next => exact wp_split Γ hΓ xs p' s' hf
    | _ => exact absurd hf.1 (fun e => by cases e)
theorem execs_split {M : Model} {A : Around} {env : Env} {xs ys : List Stmt} {Q : Flow → Shared → Prop} {E : Value → Shared → Prop} {s : Shared} (h : wpAny M A (execs xs env) (fun f s' => f = .next ∧ wpAny M A (execs ys env) Q E s') E s) :
    wpAny M A (execs (xs ++ ys) env) Q E s := fun Γ p hΓ => wp_split Γ hΓ xs p s (h Γ p hΓ)
theorem Mid.of {w : World} {ns : List Int} {j : Nat} {h₀ h' : Heap} {tk' : Nat} {L I : Addr} {it : Obj} {s s' : Shared} (h : Mid w ns j h₀ L I it { s with heap := h', toks := tk' } s') : Mid w ns j h₀ L I it s s' := by
  obtain ⟨h1, tk1, m1, xT, dT, xO, dO, a, l, r, k, kl, kr, nl, vl, vr, wl, wr, nv, oT, oO, t1, t2, t3, t4, u1, u2, u3, u4, c0, c1, c2, c3, c4, c5, c6, sl, sr, zl, zr, b1, b2, b3, b4, e1, e2, e3, e4, vt, vd, κ, τ, κ', τ', F, N, il, ir, jl, jr, iN, hne, hs, eT, eO, g, gk⟩ := h
  exact Mid.mk (s := s) h1 tk1 m1 xT dT xO dO a l r k kl kr nl vl vr wl wr nv oT oO t1 t2 t3 t4 u1 u2 u3 u4 c0 c1 c2 c3 c4 c5 c6 sl sr zl zr b1 b2 b3 b4 e1 e2 e3 e4 vt vd κ τ κ' τ' F N il ir jl jr iN hne hs eT eO g gk
theorem thirteen {k : Int} (h0 : 0 ≤ k) (h1 : k < 13) : k = 0 ∨ k = 1 ∨ k = 2 ∨ k = 3 ∨ k = 4 ∨ k = 5 ∨ k = 6 ∨ k = 7 ∨ k = 8 ∨ k = 9 ∨ k = 10 ∨ k = 11 ∨ k = 12 := by
  obtain ⟨n, rfl⟩ := Int.eq_ofNat_of_zero_le h0
  have h : ∀ i : Fin 13, ((i.val : Nat) : Int) = 0 ∨ ((i.val : Nat) : Int) = 1 ∨ ((i.val : Nat) : Int) = 2 ∨ ((i.val : Nat) : Int) = 3 ∨ ((i.val : Nat) : Int) = 4 ∨ ((i.val : Nat) : Int) = 5 ∨ ((i.val : Nat) : Int) = 6 ∨ ((i.val : Nat) : Int) = 7 ∨ ((i.val : Nat) : Int) = 8 ∨ ((i.val : Nat) : Int) = 9 ∨ ((i.val : Nat) : Int) = 10 ∨ ((i.val : Nat) : Int) = 11 ∨ ((i.val : Nat) : Int) = 12 := by decide
  exact h ⟨n, Int.ofNat_lt.mp h1⟩
theorem deed {w : World} {ns : List Int} {j : Nat} {mean : ExcName → Option Value} {mg mb : Str → Option Value} {h₀ : Heap} {L I fa : Addr} {ccd : Value} {i1 i2 i3 : Int} {s s' : Shared} {E : Value → Shared → Prop}
    (B : Below callerA h₀ [] h₀) (T : Top hd.view_39 (looseW hd.view_39 []) mean mg mb h₀) (hj : j ≤ 15) (hR : Ready w ns j h₀ L I i1 i2 i3 s s') (X : (hd.heap_39 w.params).In h₀) :
    wpAny (model Challenge.rw_is0007_01.row.prog w) (callerA.deeper (lawEnv L fa ccd)) (exec chain (lawEnv L fa ccd)) (fun f s'' => f = .next ∧ Mid w ns (j + 1) h₀ L I (krsIt i1 i2 i3) s s'') E s' := by
  obtain ⟨rest, h', tk', m, xT, dT, xO, dO, a, l, r, k, kl, kr, nl, sg, rw, vl, vr, wl, wr, nv, vs, vw, κ, τ, κ', τ', t1, t2, t3, t4, u1, u2, u3, u4, q0, q1, q2, q3, q4, q5, q6, q7, q8, c0, c1, c2, c3, c4, c5, c6, c7, c8, S, Sk, z, one, two, kind, size, limit, reach, low, high, F, N, m0, m1, m2, m3, m4, m5, m6, m7, m8, m9, m10, m11, hrT, hrO, il, ir, jl, jr, iN, is, iw, g, gk, hne, hz, hsize, hlim, hreach, ⟨h0, h1, h2⟩, hk0, hk1⟩ := hR
  have hk := thirteen hk0 hk1
  refine wpAny_mono (Q := fun f s'' => f = .next ∧ Mid w ns (j + 1) h₀ L I (krsIt i1 i2 i3) { s with heap := h', toks := tk' } s'') ?_ (fun f s'' hq => And.intro (And.left hq) (Mid.of (And.right hq))) (fun _ _ h => h)
  rcases hk with hk | hk | hk | hk | hk | hk | hk | hk | hk | hk | hk | hk | hk
  · exact kind0 B T (frUpds F ⟨rfl, rfl, rfl, rfl, rfl, congrArg (fun k9 => some (Value.int k9 q2)) hk, rfl, rfl, rfl, rfl, rfl, rfl, rfl, trivial⟩) N il ir jl jr iN is iw g gk hne hj hz m0 m1 m2 m3 m4 m5 m6 m7 m8 m9 m10 m11 hrT hrO hsize hlim hreach h0 h1 h2 X
  · exact kind1 B T (frUpds F ⟨rfl, rfl, rfl, rfl, rfl, congrArg (fun k9 => some (Value.int k9 q2)) hk, rfl, rfl, rfl, rfl, rfl, rfl, rfl, rfl, rfl, rfl, rfl, trivial⟩) N il ir jl jr iN is iw g gk hne hj hz m0 m1 m2 m3 m4 m5 m6 m7 m8 m9 m10 m11 hrT hrO hsize hlim hreach h0 h1 h2 X
  · exact kind2 B T (frUpds F ⟨rfl, rfl, rfl, rfl, rfl, congrArg (fun k9 => some (Value.int k9 q2)) hk, rfl, rfl, rfl, rfl, rfl, rfl, rfl, rfl, rfl, rfl, rfl, rfl, trivial⟩) N il ir jl jr iN is iw g gk hne hj hz m0 m1 m2 m3 m4 m5 m6 m7 m8 m9 m10 m11 hrT hrO hsize hlim hreach h0 h1 h2 X
  · exact kind3 B T (frUpds F ⟨rfl, rfl, rfl, rfl, rfl, congrArg (fun k9 => some (Value.int k9 q2)) hk, rfl, rfl, rfl, rfl, rfl, rfl, rfl, rfl, rfl, rfl, trivial⟩) N il ir jl jr iN is iw g gk hne hj hz m0 m1 m2 m3 m4 m5 m6 m7 m8 m9 m10 m11 hrT hrO hsize hlim hreach h0 h1 h2 X
  · exact kind4 B T (frUpds F ⟨rfl, rfl, rfl, rfl, rfl, congrArg (fun k9 => some (Value.int k9 q2)) hk, rfl, rfl, rfl, rfl, rfl, rfl, rfl, rfl, rfl, rfl, trivial⟩) N il ir jl jr iN is iw g gk hne hj hz m0 m1 m2 m3 m4 m5 m6 m7 m8 m9 m10 m11 hrT hrO hsize hlim hreach h0 h1 h2 X
  · exact kind5 B T (frUpds F ⟨rfl, rfl, rfl, rfl, rfl, congrArg (fun k9 => some (Value.int k9 q2)) hk, rfl, rfl, rfl, rfl, rfl, rfl, rfl, rfl, rfl, trivial⟩) N il ir jl jr iN is iw g gk hne hj hz m0 m1 m2 m3 m4 m5 m6 m7 m8 m9 m10 m11 hrT hrO hsize hlim hreach h0 h1 h2 X
  · exact kind6 B T (frUpds F ⟨rfl, rfl, rfl, rfl, rfl, congrArg (fun k9 => some (Value.int k9 q2)) hk, rfl, rfl, rfl, rfl, trivial⟩) N il ir jl jr iN is iw g gk hne hj hz m0 m1 m2 m3 m4 m5 m6 m7 m8 m9 m10 m11 hrT hrO hsize hlim hreach h0 h1 h2 X
  · exact kind7 B T (frUpds F ⟨rfl, rfl, rfl, rfl, rfl, rfl, rfl, congrArg (fun k9 => some (Value.int k9 q2)) hk, rfl, rfl, rfl, rfl, rfl, rfl, rfl, trivial⟩) N il ir jl jr iN is iw g gk hne hj hz m0 m1 m2 m3 m4 m5 m6 m7 m8 m9 m10 m11 hrT hrO hsize hlim hreach h0 h1 h2 X
  · exact kind8 B T (frUpds F ⟨rfl, rfl, rfl, rfl, rfl, congrArg (fun k9 => some (Value.int k9 q2)) hk, rfl, rfl, rfl, rfl, rfl, rfl, rfl, rfl, trivial⟩) N il ir jl jr iN is iw g gk hne hj hz m0 m1 m2 m3 m4 m5 m6 m7 m8 m9 m10 m11 hrT hrO hsize hlim hreach h0 h1 h2 X
  · exact kind9 B T (frUpds F ⟨rfl, rfl, rfl, rfl, rfl, rfl, rfl, congrArg (fun k9 => some (Value.int k9 q2)) hk, rfl, rfl, rfl, rfl, rfl, rfl, rfl, trivial⟩) N il ir jl jr iN is iw g gk hne hj hz m0 m1 m2 m3 m4 m5 m6 m7 m8 m9 m10 m11 hrT hrO hsize hlim hreach h0 h1 h2 X
  · exact kind10 B T (frUpds F ⟨rfl, rfl, rfl, rfl, rfl, rfl, congrArg (fun k9 => some (Value.int k9 q2)) hk, rfl, rfl, rfl, rfl, rfl, rfl, rfl, rfl, trivial⟩) N il ir jl jr iN is iw g gk hne hj hz m0 m1 m2 m3 m4 m5 m6 m7 m8 m9 m10 m11 hrT hrO hsize hlim hreach h0 h1 h2 X
  · exact kind11 B T (frUpds F ⟨rfl, rfl, rfl, rfl, rfl, rfl, congrArg (fun k9 => some (Value.int k9 q2)) hk, rfl, rfl, trivial⟩) N il ir jl jr iN is iw g gk hne hj hz m0 m1 m2 m3 m4 m5 m6 m7 m8 m9 m10 m11 hrT hrO hsize hlim hreach h0 h1 h2 X
  · exact kind12 B T (frUpds F ⟨rfl, rfl, rfl, rfl, rfl, congrArg (fun k9 => some (Value.int k9 q2)) hk, rfl, rfl, rfl, trivial⟩) N il ir jl jr iN is iw g gk hne hj hz m0 m1 m2 m3 m4 m5 m6 m7 m8 m9 m10 m11 hrT hrO hsize hlim hreach h0 h1 h2 X

theorem Inv.opened {w : World} {ns : List Int} {j : Nat} {m : Str → Option Value} {news : Led} (hI : Inv w ns j m news) : ∃ (nl : Addr) (nv : List Value) (c6 : Nat), IntsAre nv ns ∧ (nl, listOf (List.toArray nv) c6) ∈ news ∧ m (Str.ofString "numbers") = some (.ref nl) ∧
    ∀ v tv, Inv w ns j (upds [(Str.ofString "at", .int v tv), (Str.ofString "numbers", .ref nl)] (fun y => if y = Str.ofString "at" then some (.int v tv) else m y)) news := by
  obtain ⟨xT, dT, xO, dO, a, l, r, k, kl, kr, nl, vl, vr, wl, wr, nv, κ, τ, κ', τ', t1, t2, t3, t4, u1, u2, u3, u4, c0, c1, c2, c3, c4, c5, c6, S, Sk, hU, il, ir, jl, jr, iN, hne, g, gk⟩ := hI
  exact ⟨nl, nv, c6, iN, by k_mem, hU.2.2.2.2.1, fun v tv => Inv.mk' ⟨hU.1, hU.2.1, hU.2.2.1, hU.2.2.2.1, rfl, trivial⟩ il ir jl jr iN hne g gk⟩
theorem Next.of {w : World} {ns : List Int} {j : Nat} {h₀ h' : Heap} {tk' : Nat} {L I : Addr} {it : Obj} {s s' : Shared} (h : Next w ns j h₀ L I it { s with heap := h', toks := tk' } s') : Next w ns j h₀ L I it s s' := by
  obtain ⟨h1, tk1, m1, n1, F, N, hI⟩ := h
  exact Next.mk (s := s) h1 tk1 m1 n1 F N hI
theorem turn {w : World} {ns : List Int} {j : Nat} {mean : ExcName → Option Value} {mg mb m : Str → Option Value} {h₀ : Heap} {L I fa : Addr} {ccd : Value} {i1 i2 i3 v : Int} {tv : Tok} {s : Shared} {E : Value → Shared → Prop} {news : Led}
    (B : Below callerA h₀ [] h₀) (T : Top hd.view_39 (looseW hd.view_39 []) mean mg mb h₀) (hj : j ≤ 15) (hI : Inv w ns j m news) (h0 : 0 ≤ v) (h1 : v < ns.length) (hn : ns.length ≤ 45)
    (F : Fr h₀ L s.heap (fun y => if y = Str.ofString "at" then some (.int v tv) else m y)) (N : News h₀ L s.heap ((I, krsIt i1 i2 i3) :: news)) (X : (hd.heap_39 w.params).In h₀) :
    wpAny (model Challenge.rw_is0007_01.row.prog w) (callerA.deeper (lawEnv L fa ccd)) (execs turnBody (lawEnv L fa ccd)) (fun f s' => f = .next ∧ Next w ns (j + 1) h₀ L I (krsIt i1 i2 i3) s s') E s := by
  obtain ⟨nl, nv, c6, iN, mN, hm, hI'⟩ := hI.opened
  have e : turnBody = head0Body ++ (head1Body ++ ([chain] ++ [lastIf])) := by rfl
  rw [e]
  have F0 := frUpds (bs := [(Str.ofString "at", .int v tv), (Str.ofString "numbers", .ref nl)]) F ⟨rfl, hm, trivial⟩
  refine execs_split (wpAny_mono (head0 B T iN h0 h1 hn (List.mem_cons_of_mem _ mN) F0 N X) ?_ (fun _ _ h => h))
  rintro f s0 ⟨rfl, hG⟩
  refine ⟨rfl, ?_⟩
  obtain ⟨h', tk', a, b, c, ta, tb, tc, F1, N1⟩ := hG
  refine execs_split (wpAny_mono (head1 (s := { s with heap := h', toks := tk' }) B T hj (hI' v tv) F1 N1 X) ?_ (fun _ _ h => h))
  rintro f s1 ⟨rfl, hR⟩
  refine ⟨rfl, ?_⟩
  refine wpAny_execs_cons (wpAny_mono (deed B T hj hR X) ?_ (fun _ _ h => h))
  rintro f s2 ⟨rfl, hM⟩
  exact wpAny_mono (look B T (by lia) hM X) (fun f s3 hq => And.intro (And.left hq) (Next.of (And.right hq))) (fun _ _ h => h)
theorem off_iter {w : World} {ns : List Int} {j : Nat} {m : Str → Option Value} {h₀ h : Heap} {L I : Addr} {a b c : Int} {news : Led} (hI : Inv w ns j m news) (N : News h₀ L h ((I, krsIt a b c) :: news)) : ∀ p ∈ news, p.1 ≠ I := by
  have hc : ∀ p ∈ news, p.2.cls ≠ (krsIt a b c).cls := by
    obtain ⟨xT, dT, xO, dO, a, l, r, k, kl, kr, nl, vl, vr, wl, wr, nv, κ, τ, κ', τ', t1, t2, t3, t4, u1, u2, u3, u4, c0, c1, c2, c3, c4, c5, c6, S, Sk, hU, _⟩ := hI
    exact (List.forall_mem_cons.mpr ⟨(by first | (intro e9; cases e9; done) | (intro e9; injection e9 with e9; exact absurd e9 (by decide))), (List.forall_mem_cons.mpr ⟨(by first | (intro e9; cases e9; done) | (intro e9; injection e9 with e9; exact absurd e9 (by decide))), (List.forall_mem_cons.mpr ⟨(by first | (intro e9; cases e9; done) | (intro e9; injection e9 with e9; exact absurd e9 (by decide))), (List.forall_mem_cons.mpr ⟨(by first | (intro e9; cases e9; done) | (intro e9; injection e9 with e9; exact absurd e9 (by decide))), (List.forall_mem_cons.mpr ⟨(by first | (intro e9; cases e9; done) | (intro e9; injection e9 with e9; exact absurd e9 (by decide))), (List.forall_mem_cons.mpr ⟨(by first | (intro e9; cases e9; done) | (intro e9; injection e9 with e9; exact absurd e9 (by decide))), (List.forall_mem_cons.mpr ⟨(by first | (intro e9; cases e9; done) | (intro e9; injection e9 with e9; exact absurd e9 (by decide))), (List.forall_mem_cons.mpr ⟨(by first | (intro e9; cases e9; done) | (intro e9; injection e9 with e9; exact absurd e9 (by decide))), (List.forall_mem_cons.mpr ⟨(by first | (intro e9; cases e9; done) | (intro e9; injection e9 with e9; exact absurd e9 (by decide))), (List.forall_mem_cons.mpr ⟨(by first | (intro e9; cases e9; done) | (intro e9; injection e9 with e9; exact absurd e9 (by decide))), (List.forall_mem_cons.mpr ⟨(by first | (intro e9; cases e9; done) | (intro e9; injection e9 with e9; exact absurd e9 (by decide))), List.forall_mem_nil _⟩)⟩)⟩)⟩)⟩)⟩)⟩)⟩)⟩)⟩)⟩)
  intro p hp
  exact ne_of_cls N (List.mem_cons_of_mem _ hp) List.mem_cons_self (hc p hp)
theorem loop {w : World} {ns : List Int} {mean : ExcName → Option Value} {mg mb : Str → Option Value} {h₀ : Heap} {L I fa : Addr} {ccd : Value} {n : Nat} {s : Shared} {E : Value → Shared → Prop} {Q : Flow → Shared → Prop}
    (B : Below callerA h₀ [] h₀) (T : Top hd.view_39 (looseW hd.view_39 []) mean mg mb h₀) (X : (hd.heap_39 w.params).In h₀) (hn : ns.length ≤ 45) (hr : (n : Int) * 3 < ns.length + 3)
    (hQ : ∀ h tk m news, Fr h₀ L h m → News h₀ L h news → Q .next { s with heap := h, toks := tk }) :
    ∀ (k i : Nat) (m : Str → Option Value) (news : Led), i + k = n → Inv w ns i m news →
      KrsRest Challenge.rw_is0007_01.row.prog w (callerA.deeper (lawEnv L fa ccd)) E h₀ (lawEnv L fa ccd) (Str.ofString "at") turnBody Q s I 0 3 n k i m news := by
  intro k
  induction k with
  | zero => intro i m news _ _; exact KrsRest.zero (fun h tk F N => hQ h tk m news F N)
  | succ k ih =>
    intro i m news e hI
    refine KrsRest.succ rfl (fun t h tk F N => ?_)
    refine wpAny_mono (turn (s := { s with heap := h, toks := tk }) B T (by lia) hI (by lia) (by lia) hn F N X) ?_ (fun _ _ h => h)
    rintro f s' ⟨rfl, h', tk', m', news', F', N', hI'⟩
    exact ⟨h', tk', m', news', rfl, F', N', off_iter hI' N', ih (i + 1) m' news' (by lia) hI'⟩
/-- the look at the start: both tools are as they are made -/
theorem same0_spec {w : World} {news : Led} {g1 g2 g3 g4 g5 g6 b1 b2 b3 b4 b5 b6 : Tok} {z : Str} {n : Nat} {x dx a l r : Addr} {vr : List Value} {t1 t2 t3 t4 : Tok} {k kl kr : Nat} (hx : (x, instObj 199 dx) ∈ news)
    (hd : (dx, dictOf [⟨PyData.keyHash w.params (Str.ofString "current"), .str (Str.ofString "current") g1, .str z b1⟩,
   ⟨PyData.keyHash w.params (Str.ofString "cursor"), .str (Str.ofString "cursor") g2, .int 0 b2⟩,
   ⟨PyData.keyHash w.params (Str.ofString "limit"), .str (Str.ofString "limit") g3, .int (n : Nat) b3⟩,
   ⟨PyData.keyHash w.params (Str.ofString "limit_backward"), .str (Str.ofString "limit_backward") g4, .int 0 b4⟩,
   ⟨PyData.keyHash w.params (Str.ofString "bra"), .str (Str.ofString "bra") g5, .int 0 b5⟩,
   ⟨PyData.keyHash w.params (Str.ofString "ket"), .str (Str.ofString "ket") g6, .int (n : Nat) b6⟩] 6) ∈ news) (hz : z.length = n)
    (ha : (a, tupO [.ref l, .ref r, .int 0 t1, .int 0 t2, .int 0 t3, .int z.length t4] k) ∈ news) (hl : (l, listOf (List.toArray []) kl) ∈ news) (hr : (r, listOf (List.toArray vr) kr) ∈ news)
   (ir : StrsAre vr (signs z)) (h1 : z.length < 1000) :
   Call w 227 3 32 news [.ref x, .ref a] (fun v n => v = .bool true ∧ n = news) := by
  subst hz
  have hd' : (dx, stem w ⟨g1, g2, g3, g4, g5, g6⟩ ⟨b1, b2, b3, b4, b5, b6⟩ (freshT z)) ∈ news := hd
  rw [law12 z] at hd'
  exact same_spec (S := ⟨[], signs z, 0, 0, 0, z.length⟩) hx hd' ha hl hr .nil ir (fun _ h => (List.not_mem_nil h).elim) (ones_signs z) (by show 0 < 1000; decide) (by show (signs z).length < 1000; rw [signs_length]; exact h1)
theorem words_S11a : True := by
  k_with_none
  k_with "execs" => ((k_here; (try dsimp only); refine tidy ?_; intro t9; (try k_fold); refine wpAny_execs_cons ?_))
  k_with "eval Name" => ((k_here; k_dflt (refine' nameX_L ?zF9 ?zv9 ?_ ?za9 ?zb9; (case zF9 => k_asm); (case za9 => exact Eq.refl _); (case zb9 => exact Eq.refl (some _)); (case zv9 => exact Eq.refl (some _)); k_whole)))
  k_with "storeName" => ((k_here; k_dflt (refine' storeX_L ?zF9 ?zN9 ?_ ?za9 ?zb9; (case zF9 => k_asm); (case zN9 => k_asm); (case za9 => exact Eq.refl _); (case zb9 => exact Eq.refl (some _)); k_whole; intro h' F' N'; refine useF ?_ F'; clear F'; intro m9 F9; (try k_sweep))))
  k_with "execs cons" => ((k_here; (try dsimp only); refine tidy ?_; intro t9; (try k_fold); refine wpAny_execs_cons ?_))
  k_with "mem" => (first | ktr_member | exact List.Mem.head _ | (refine' mtail ?_; k_mem))
  k_with "all" => (first | assumption | exact List.forall_mem_nil _ | (refine' List.forall_mem_cons.mpr ⟨?za9, ?zb9⟩; (case za9 => first | (refine Apart.ne ?_; with_reducible assumption) | k_ne | (exact ne_of_cls (by k_asm) (by k_mem) (by k_mem) (by first | (intro e9; cases e9; done) | (intro e9; injection e9 with e9; exact absurd e9 (by decide))))); (case zb9 => k_all)))
  k_with "upd" => (first | with_reducible assumption | (refine' Spl.head ?za9; (case za9 => k_all)) | (refine' Spl.tail ?za9 ?zb9; (case za9 => first | (refine Apart.ne ?_; with_reducible assumption) | k_ne | (exact ne_of_cls (by k_asm) (by k_mem) (by k_mem) (by first | (intro e9; cases e9; done) | (intro e9; injection e9 with e9; exact absurd e9 (by decide))))); (case zb9 => k_upd)) | (refine' Upd.head ?za9; (case za9 => k_all)) | (refine' Upd.tail ?za9 ?zb9; (case za9 => first | (refine Apart.ne ?_; with_reducible assumption) | k_ne | (exact ne_of_cls (by k_asm) (by k_mem) (by k_mem) (by first | (intro e9; cases e9; done) | (intro e9; injection e9 with e9; exact absurd e9 (by decide))))); (case zb9 => k_upd)))
  k_with "call ref" => ((k_here; (with_reducible show wpAny _ _ (call (Value.ref 199) _) _ _ _); k_dflt (refine' new_spec  _ _ _ _ _ _ _ _ _ _ _ _ _ _ _ _ _ _ _ _ ?zB9 ?zF9 ?zX9 ?zN9 ?zT9 ?zk9 ?zd9 ?zu9 ?_; (case zB9 => k_asm); (case zF9 => k_asm); (case zX9 => k_asm); (case zN9 => k_asm); (case zT9 => k_asm); (case zk9 => first | exact rfl | assumption); (case zd9 => ktr_room); (case zu9 => ktr_units); intro v9 n9 h9 tk9 hR F9 N9; obtain ⟨x9, d9, κ9, τ9, hd9⟩ := hR; (have hg9 := gnNe_of hd9); (try simp only [GnNe, and_true] at hg9); clear hd9; (try simp only [List.cons_append, List.nil_append] at N9); (try dsimp only); (try k_sweep); (try k_fold))))
  k_with "call ref" => ((k_here; (with_reducible show wpAny _ _ (call (Value.ref 42) _) _ _ _); k_dflt (refine' set_current_spec ?zS9 ?zx9 ?zhc9 _ _ _ _ _ _ _ _ _ _ _ _ _ _ _ _ _ _ _ _ ?zB9 ?zF9 ?zX9 ?zN9 ?zT9 ?zk9 ?zd9 ?zu9 ?_; (case zB9 => k_asm); (case zF9 => k_asm); (case zX9 => k_asm); (case zN9 => k_asm); (case zT9 => k_asm); (case zk9 => first | exact rfl | assumption); (case zd9 => ktr_room); (case zu9 => ktr_units); (case zx9 => k_mem); (case zS9 => k_upd); (case zhc9 => first | decide +kernel | (first | assumption | (dsimp only; lia) | lia)); intro v9 n9 h9 tk9 hR F9 N9; obtain ⟨τ9, e9⟩ := hR; subst e9; (try simp only [List.cons_append, List.nil_append] at N9); (try dsimp only); (try k_sweep); (try k_fold))))
  k_with "call ref" => ((k_here; (with_reducible show wpAny _ _ (call (Value.ref 213) _) _ _ _); k_dflt (refine' fresh_spec ?zhz9 _ _ _ _ _ _ _ _ _ _ _ _ _ _ _ _ _ _ _ _ ?zB9 ?zF9 ?zX9 ?zN9 ?zT9 ?zk9 ?zd9 ?zu9 ?_; (case zB9 => k_asm); (case zF9 => k_asm); (case zX9 => k_asm); (case zN9 => k_asm); (case zT9 => k_asm); (case zk9 => first | exact rfl | assumption); (case zd9 => ktr_room); (case zu9 => ktr_units); (case zhz9 => first | decide +kernel | (first | assumption | (dsimp only; lia) | lia)); intro v9 n9 h9 tk9 hR F9 N9; obtain ⟨a9, l9, r9, vr9, kr9, t91, t92, t93, t94, k9, i9⟩ := hR; (try simp only [List.cons_append, List.nil_append] at N9); (try dsimp only); (try k_sweep); (try k_fold))))
  trivial

theorem mem_fresh {w : World} {news : Led} {d : Addr} {κ τ : Keys} {z : Str} (hd : (d, stem w κ τ (freshT z)) ∈ news) :
    (d, stem w κ τ (toolOf ⟨[], signs z, 0, 0, 0, (z.length : Nat)⟩)) ∈ news := by
  rw [law12 z] at hd
  exact hd
theorem good_start {z : Str} (h : z.length ≤ 8) : Good 0 ⟨[], signs z, 0, 0, 0, (z.length : Nat)⟩ :=
  ⟨fun _ h => (List.not_mem_nil h).elim, ones_signs z, by show 0 + (signs z).length ≤ 8 + 4 * 0; rw [signs_length]; lia, by show (0 : Int) ≤ ((0 : Nat) : Int) + ((signs z).length : Nat); lia⟩
noncomputable def startBody : List Stmt := lawBody.take 5
/-- what the law has made ahead of its first look -/
inductive Started (w : World) (h₀ : Heap) (L ml : Addr) (s : Shared) : Shared → Prop
  | mk (h' : Heap) (tk' : Nat) (m : Str → Option Value) (xT dT xO dO a l r k kl kr : Addr) (vl vr wl wr : List Value) (κ τ κ' τ' : Keys) (t1 t2 t3 t4 u1 u2 u3 u4 : Tok) (c0 c1 c2 c3 c4 c5 : Nat) (S Sk : St)
    (F : Fr h₀ L h' (upds [(Str.ofString "tool", .ref xT), (Str.ofString "other", .ref xO), (Str.ofString "mine", .ref a), (Str.ofString "kept", .ref k), (Str.ofString "script", .ref ml)] m))
    (N : News h₀ L h' [(xT, instObj 199 dT), (dT, stem w κ τ (toolOf S)), (xO, instObj 199 dO), (dO, stem w κ' τ' (toolOf Sk)), (a, tupO [.ref l, .ref r, .int S.behind t1, .int S.back t2, .int S.bra t3, .int S.ket t4] c0), (l, listOf (List.toArray vl) c1), (r, listOf (List.toArray vr) c2),
      (k, tupO [.ref kl, .ref kr, .int Sk.behind u1, .int Sk.back u2, .int Sk.bra u3, .int Sk.ket u4] c3), (kl, listOf (List.toArray wl) c4), (kr, listOf (List.toArray wr) c5)]) (il : StrsAre vl S.l) (ir : StrsAre vr S.r) (jl : StrsAre wl Sk.l) (jr : StrsAre wr Sk.r) (hne : Apart dO dT) (g : Good 0 S) (gk : Good 0 Sk) :
    Started w h₀ L ml s { s with heap := h', toks := tk' }
theorem startOf {w : World} {mean : ExcName → Option Value} {mg mb m : Str → Option Value} {h₀ : Heap} {L fa ml : Addr} {ccd : Value} {s : Shared} {E : Value → Shared → Prop}
    (B : Below callerA h₀ [] h₀) (T : Top hd.view_39 (looseW hd.view_39 []) mean mg mb h₀)
    (F : Fr h₀ L s.heap (upds [(Str.ofString "script", .ref ml)] m)) (N : News h₀ L s.heap []) (X : (hd.heap_39 w.params).In h₀) :
    wpAny (model Challenge.rw_is0007_01.row.prog w) (callerA.deeper (lawEnv L fa ccd)) (execs startBody (lawEnv L fa ccd)) (fun f s' => f = .next ∧ Started w h₀ L ml s s') E s := by
  revert X
  w_top off
  k_fill
  intro X
  have hs := (by (conv => lhs; whnf) : lawScope = _)
  have hb := (by (conv => lhs; whnf) : startBody = _)
  unfold lawEnv
  rw [hs, hb]
  clear hs hb
  k_steps
  (show wpAny _ _ (execs [] _) _ _ _)
  refine wpAny_execs_nil ?_
  (try dsimp only)
  (rename Fr _ _ _ _ => F9)
  (rename News _ _ _ _ => N9)
  
  refine' And.intro rfl (Started.mk _ _ _ _ _ _ _ _ _ _ _ _ _ [] _ [] _ ⟨_, _, _, _, _, _⟩ ⟨_, _, _, _, _, _⟩ ⟨_, _, _, _, _, _⟩ ⟨_, _, _, _, _, _⟩ _ _ _ _ _ _ _ _ _ _ _ _ _ _ ⟨[], signs (Str.ofString "ABCDEFGH"), 0, 0, 0, ((Str.ofString "ABCDEFGH").length : Nat)⟩ ⟨[], signs (Str.ofString ""), 0, 0, 0, ((Str.ofString "").length : Nat)⟩ (frUpds F9 ⟨rfl, rfl, rfl, rfl, rfl, trivial⟩) (cb_drop N9 ?hN) .nil ?h1 .nil ?h2 ?hA (good_start (by decide +kernel)) (good_start (by decide +kernel)))
  case hN => exact (List.forall_mem_cons.mpr ⟨(by k_mem), (List.forall_mem_cons.mpr ⟨(mem_fresh (z := (Str.ofString "ABCDEFGH")) (by k_mem)), (List.forall_mem_cons.mpr ⟨(by k_mem), (List.forall_mem_cons.mpr ⟨(mem_fresh (z := (Str.ofString "")) (by k_mem)), (List.forall_mem_cons.mpr ⟨(by k_mem), (List.forall_mem_cons.mpr ⟨(by k_mem), (List.forall_mem_cons.mpr ⟨(by k_mem), (List.forall_mem_cons.mpr ⟨(by k_mem), (List.forall_mem_cons.mpr ⟨(by k_mem), (List.forall_mem_cons.mpr ⟨(by k_mem), List.forall_mem_nil _⟩)⟩)⟩)⟩)⟩)⟩)⟩)⟩)⟩)⟩)
  case h1 => assumption
  case h2 => assumption
  case hA => exact ⟨by k_ne⟩
theorem words_S12a : True := by
  k_with_none
  k_with "eval Name" => ((k_here; k_dflt (refine' nameX_L ?zF9 ?zv9 ?_ ?za9 ?zb9; (case zF9 => k_asm); (case za9 => exact Eq.refl _); (case zb9 => exact Eq.refl (some _)); (case zv9 => exact Eq.refl (some _)); k_whole)))
  k_with "storeName" => ((k_here; k_dflt (refine' storeX_L ?zF9 ?zN9 ?_ ?za9 ?zb9; (case zF9 => k_asm); (case zN9 => k_asm); (case za9 => exact Eq.refl _); (case zb9 => exact Eq.refl (some _)); k_whole; intro h' F' N'; refine useF ?_ F'; clear F'; intro m9 F9; (try k_sweep))))
  k_with "execs cons" => ((k_here; (try dsimp only); refine tidy ?_; intro t9; (try k_fold); refine wpAny_execs_cons ?_))
  k_with "mem" => (first | ktr_member | exact List.Mem.head _ | (refine' mtail ?_; k_mem))
  k_with "ite" => ((k_here; first | (refine ite_neg ?zc9 ?_; (case zc9 => (simp; done))) | (refine ite_pos ?zc9 ?_; (case zc9 => (simp; done)))))
  k_with "call ref" => ((k_here; (with_reducible show wpAny _ _ (call (Value.ref 227) _) _ _ _); k_dflt (refine' same_spec ?zx9 ?zdd9 ?zaa9 ?zl9 ?zr9 ?zil9 ?zir9 ?zol9 ?zoo9 ?zh19 ?zh29 _ _ _ _ _ _ _ _ _ _ _ _ _ _ _ _ _ _ _ _ ?zB9 ?zF9 ?zX9 ?zN9 ?zT9 ?zk9 ?zd9 ?zu9 ?_; (case zB9 => k_asm); (case zF9 => k_asm); (case zX9 => k_asm); (case zN9 => k_asm); (case zT9 => k_asm); (case zk9 => first | exact rfl | assumption); (case zd9 => ktr_room); (case zu9 => ktr_units); (case zx9 => k_mem); (case zdd9 => k_mem); (case zaa9 => k_mem); (case zl9 => k_mem); (case zr9 => k_mem); (case zil9 => assumption); (case zir9 => assumption); (case zol9 => assumption); (case zoo9 => assumption); (case zh19 => (first | assumption | (dsimp only; lia) | lia)); (case zh29 => (first | assumption | (dsimp only; lia) | lia)); intro v9 n9 h9 tk9 hR F9 N9; obtain ⟨e9, e9'⟩ := hR; subst e9; subst e9'; (try simp only [List.cons_append, List.nil_append] at N9); (try dsimp only); (try k_sweep); (try k_fold))))
  trivial

theorem isl_keep {h h' : Heap} {l : Addr} {items : Array Value} (hl : h.IsList l items) (hk : ∀ b o, h.get? b = some o → h'.get? b = some o) : h'.IsList l items := by
  obtain ⟨o, ho, r⟩ := hl
  exact ⟨o, hk _ _ ho, r⟩
section
variable {prog : Program} {w : World} {A : Around} {E : Value → Shared → Prop} {s : Shared} {h₀ : Heap} {L l : Addr} {m : Str → Option Value} {news : List (Addr × Obj)} {value slice : PySem.Expr} {vs : List Value} {ns : List Int} {vl vu : Value} {j : Int} {Q : Value → Shared → Prop} {k : Nat}
theorem il_slice (F : Fr h₀ L s.heap m) (N : News h₀ L s.heap news) (hl : s.heap.IsList l vs.toArray) (pl : IsPart vl none) (pu : IsPart vu (some j)) (hj : 0 ≤ j) (hi : IntsAre vs ns) (hz : ns.length < 2000)
    (h : ∀ D xs h', Fr h₀ L h' m → News h₀ L h' ((D, listOf (List.toArray xs) 0) :: news) → (∀ p ∈ news, p.1 < D) → IntsAre xs (ns.take j.toNat) → (ns.take j.toNat).length ≤ j.toNat → Q (.ref D) { s with heap := h' })
    (hs : subscripted slice false (.ref l) (.ref s.heap.objs.size) = operate [.ref s.heap.objs.size, .ref l] (getItem (.ref l) (.ref s.heap.objs.size))) (ht : ∀ r, letTemporaryGo value (.ref l) r = pure ()) :
    wpAny (model prog w) A (subscriptTail value slice (.ref l) (.ref s.heap.objs.size)) Q E { s with heap := s.heap.push { cls := .type "slice", data := .fields #[vl, vu, .none] } } := by
  have hp := kssn_any (lo := none) (hi := some j) hi
  have e : (ns.drop (kms_lo none ns.length)).take (kms_hi (some j) ns.length - kms_lo none ns.length) = ns.take j.toNat := pick_to ns hj
  rw [e] at hp
  refine kmk_slice_ints (c := (ns.take j.toNat).length) F N hl pl pu hi hp rfl (fun D ws h' F' N' l1 hI _ _ => h D ws h' F' N' l1 hI (by rw [List.length_take]; lia)) hs ht ?_
  rw [List.size_toArray, hi.length, PySem.sizeLine_eq]; lia
theorem il_len (N : News h₀ L s.heap news) (hl : (l, listOf vs.toArray k) ∈ news) (hi : IntsAre vs ns) (hz : ns.length < 4000)
    (h : Q (.int ns.length (s.toks + 1)) { s with toks := s.toks + 1 + 1 }) : wpAny (model prog w) A (call (.builtin "len") [.ref l]) Q E s := by
  refine PySem.Calls.call_len_list (News.isList N hl) ?_ ?_
  · rw [List.size_toArray, hi.length]; lia
  · rw [List.size_toArray, hi.length]; exact h
end
theorem range3 (n : Nat) : Builtin.Range.rangeSize 0 (n : Int) 3 = (((n + 2) / 3 : Nat) : Int) := by
  unfold Builtin.Range.rangeSize
  rw [if_pos (by decide)]
  split <;> lia
theorem small3 {n : Nat} (h : n ≤ 63) : Builtin.Range.small 0 (n : Int) 3 = true := by
  have q : ∀ m : Fin 64, Builtin.Range.small 0 ((m.val : Nat) : Int) 3 = true := by decide +kernel
  exact q ⟨n, by lia⟩
theorem words_S12b : True := by
  k_with "subscriptTail Name Slice ref ref" => ((k_here; (with_reducible show wpAny _ _ (subscriptTail _ (PySem.Expr.Slice _ _ none _) (Value.ref _) (Value.ref _)) _ _ _); k_dflt (refine' il_slice ?zF9 ?zN9 ?zl9 ?zp9 ?zq9 ?zy9 ?zi9 ?zz9 ?_ ?zs9 ?zt9; (case zF9 => k_asm); (case zN9 => k_asm); (case zl9 => (refine' isl_keep ?za9 ?zb9; (case za9 => with_reducible assumption); (case zb9 => exact Fr.keep (by k_asm)))); (case zp9 => kmk_part); (case zq9 => kmk_part); (case zy9 => decide); (case zi9 => with_reducible assumption); (case zz9 => lia); (case zs9 => with_unfolding_all rfl); (case zt9 => kmk_pure)); intro D' ws' h' F' N' l1 hI' hT'; (try dsimp only); (try k_sweep)))
  k_with "call builtin:len" => ((k_here; (with_reducible show wpAny _ _ (call (Value.builtin "len") [Value.ref _]) _ _ _); k_dflt (refine' il_len ?zN9 ?zl9 ?zi9 ?zz9 ?_; (case zN9 => k_asm); (case zl9 => k_mem); (case zi9 => with_reducible assumption); (case zz9 => lia)); (try dsimp only)))
  k_with "last pyIter ref" => ((k_here; refine stopAt ?_))
  k_with "pyIter ref" => ((k_here; refine stopAt ?_))
  trivial

noncomputable def restBody : List Stmt := lawBody.drop 5
theorem rest {w : World} {ns : List Int} {mean : ExcName → Option Value} {mg mb : Str → Option Value} {h₀ : Heap} {L fa ml : Addr} {ccd : Value} {vs : List Value} {s s' : Shared} {E : Value → Shared → Prop} {Q : Flow → Shared → Prop}
    (B : Below callerA h₀ [] h₀) (T : Top hd.view_39 (looseW hd.view_39 []) mean mg mb h₀) (hL : h₀.IsList ml vs.toArray) (hI : IntsAre vs ns) (hn : ns.length ≤ 63) (hS : Started w h₀ L ml s s')
    (hE : PassesOwn (model Challenge.rw_is0007_01.row.prog w) (callerA.deeper (lawEnv L fa ccd)) (lawEnv L fa ccd) E) (hQ : ∀ h tk m news, Fr h₀ L h m → News h₀ L h news → Q (.ret (.bool true)) { s with heap := h, toks := tk }) (X : (hd.heap_39 w.params).In h₀) :
    wpAny (model Challenge.rw_is0007_01.row.prog w) (callerA.deeper (lawEnv L fa ccd)) (execs restBody (lawEnv L fa ccd)) Q E s' := by
  revert X
  w_top off
  k_fill
  intro X
  have hs := (by (conv => lhs; whnf) : lawScope = _)
  have hb := (by (conv => lhs; whnf) : restBody = _)
  unfold lawEnv at hE ⊢
  rw [hs] at hE ⊢
  rw [hb]
  clear hs hb
  obtain ⟨h', tk', m, xT, dT, xO, dO, a, l, r, k, kl, kr, vl, vr, wl, wr, κ, τ, κ', τ', t1, t2, t3, t4, u1, u2, u3, u4, c0, c1, c2, c3, c4, c5, S, Sk, F, N, il, ir, jl, jr, hne, g, gk⟩ := hS
  have g1 := g.ol
  have g2 := g.or
  have g3 := g.len
  have gk1 := gk.ol
  have gk2 := gk.or
  have gk3 := gk.len
  k_steps
  (with_reducible rename IsRange _ _ _ _ _ _ _ _ => R9)
  (rename Fr _ _ _ _ => F9)
  (rename News _ _ _ _ => N9)
  (rename IntsAre _ (List.take _ _) => I9)
  have hlen : (List.take (Int.toNat 45) ns).length ≤ 45 := by rw [List.length_take]; exact Nat.min_le_left _ _
  refine krs_iter (news := [(xT, instObj 199 dT), (dT, stem w κ τ (toolOf S)), (xO, instObj 199 dO), (dO, stem w κ' τ' (toolOf Sk)), (a, tupO [.ref l, .ref r, .int S.behind t1, .int S.back t2, .int S.bra t3, .int S.ket t4] c0), (l, listOf (List.toArray vl) c1), (r, listOf (List.toArray vr) c2),
      (k, tupO [.ref kl, .ref kr, .int Sk.behind u1, .int Sk.back u2, .int Sk.bra u3, .int Sk.ket u4] c3), (kl, listOf (List.toArray wl) c4), (kr, listOf (List.toArray wr) c5), (_, listOf (List.toArray _) _)]) (n := ((List.take (Int.toNat 45) ns).length + 2) / 3) rfl R9 (small3 (by lia)) (range3 _) F9 (cb_drop N9 (List.forall_mem_cons.mpr ⟨by k_mem, (List.forall_mem_cons.mpr ⟨by k_mem, (List.forall_mem_cons.mpr ⟨by k_mem, (List.forall_mem_cons.mpr ⟨by k_mem, (List.forall_mem_cons.mpr ⟨by k_mem, (List.forall_mem_cons.mpr ⟨by k_mem, (List.forall_mem_cons.mpr ⟨by k_mem, (List.forall_mem_cons.mpr ⟨by k_mem, (List.forall_mem_cons.mpr ⟨by k_mem, (List.forall_mem_cons.mpr ⟨by k_mem, (List.forall_mem_cons.mpr ⟨by k_mem, List.forall_mem_nil _⟩)⟩)⟩)⟩)⟩)⟩)⟩)⟩)⟩)⟩)⟩)) (fun I _ => ?_)
  refine loop (ns := List.take (Int.toNat 45) ns) B T X hlen (by lia) ?hD _ 0 _ _ (Nat.zero_add _) ?hV
  case hV => exact Inv.mk' (κ := κ) (τ := τ) (κ' := κ') (τ' := τ') (S := S) (Sk := Sk) ⟨Eq.refl (some _), Eq.refl (some _), Eq.refl (some _), Eq.refl (some _), Eq.refl (some _), trivial⟩ il ir jl jr I9 hne g gk
  case hD =>
    intro h9 tk9 m9 n9 F10 N10
    k_steps
    exact hQ _ _ _ _ F10 N10
end Mine
set_option maxRecDepth 100000 in
set_option maxHeartbeats 8000000 in
theorem PySem.Challenge.cw_is0007_01_holds : PySem.Challenge.rw_is0007_01.Holds := by
  exact Mine.hd (by
    k_with_none
    k_go0
    (rename Below _ _ _ _ => B9)
    (rename Top _ _ _ _ _ _ => T9)
    (rename IntsAre _ _ => I9)
    (rename Heap.IsList _ _ _ => L9)
    (rename Fr _ _ _ _ => F9)
    (rename News _ _ _ _ => N9)
    (rename Frag.In _ _ => X9)
    
    (show wpAny _ (callerA.deeper (Mine.lawEnv _ _ _)) (execs Mine.lawBody (Mine.lawEnv _ _ _)) _ _ _)
    
    rw [show Mine.lawBody = Mine.startBody ++ Mine.restBody from (List.take_append_drop 5 _).symm]
    refine Mine.execs_split (wpAny_mono (Mine.startOf B9 T9 (Mine.frUpds F9 ⟨rfl, trivial⟩) N9 X9) ?_ (fun _ _ h => h))
    rintro f s2 ⟨rfl, hS⟩
    refine ⟨rfl, ?_⟩
    
    refine Mine.rest B9 T9 L9 I9 (by lia) hS (by passes_own) (fun h9 tk9 m9 n9 F10 N10 => ?_) X9
    
    k_steps)
