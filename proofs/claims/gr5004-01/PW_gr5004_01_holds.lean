import PyProof.Rows.All
import Wide.All
import OpenK.AllK
import Wide.FinOn
import PySem.Challenge.RW_gr5004_01
open PySem PySem.W PyProof.Rows
set_option Elab.async false
namespace Mine
set_option maxRecDepth 100000 in
set_option maxHeartbeats 8000000 in
open_top hd for PySem.Challenge.rw_gr5004_01
set_option rowWalk.seconds 0
section
/-! ### plain words -/
/-- a text by its signs' numbers -/
abbrev tx (l : List Nat) : Str := ⟨l.toArray⟩
theorem tx_len (l : List Nat) : (tx l).length = l.length := by simp [Str.length]
theorem tx_app (a b : List Nat) : tx a ++ tx b = tx (a ++ b) := by
  refine Str.ext' ?_
  rw [Str.cps_append]
  simp
theorem tx_inj {a b : List Nat} (h : tx a = tx b) : a = b := by
  have : (tx a).cps.toList = (tx b).cps.toList := by rw [h]
  simpa using this
theorem slice_tx (l : List Nat) {a b : Nat} (hab : a ≤ b) (hb : b ≤ l.length) : Txt.slice (tx l) (some (a : Int)) (some (b : Int)) = tx ((l.drop a).take (b - a)) := by
  have := StrLaws.sliceText_nat (tx l) hab (by rw [tx_len]; exact hb)
  exact this
theorem slice_init (l : List Nat) (c : Nat) : Txt.slice (tx l ++ tx [c]) none (some (-1)) = tx l := by
  rw [tx_app]
  have e : Txt.slice (tx (l ++ [c])) none (some (-1)) = Txt.slice (tx (l ++ [c])) (some ((0 : Nat) : Int)) (some ((l.length : Nat) : Int)) := by
    unfold Txt.slice
    rw [StrLaws.sliceIdx_none_lo]
    have e2 : Builtin.Str.strSliceIndices (some 0) (some (-1)) 1 (tx (l ++ [c])).length = Builtin.Str.strSliceIndices (some ((0 : Nat) : Int)) (some (l.length : Int)) 1 (tx (l ++ [c])).length := by
      unfold Builtin.Str.strSliceIndices
      have h1 : (tx (l ++ [c])).length = l.length + 1 := by rw [tx_len]; simp
      rw [h1]
      have h2 : max (0 : Int) (min (-1 + ((l.length + 1 : Nat) : Int)) ((l.length + 1 : Nat) : Int)) = l.length := by omega
      have h3 : max (0 : Int) (min ((l.length : Nat) : Int) ((l.length + 1 : Nat) : Int)) = l.length := by omega
      have h4 : ¬ ((l.length : Int) < 0) := by omega
      simp only [show (1 : Int) > 0 by decide, if_true, show ((-1 : Int) < 0) by decide, h2, h3, if_neg h4]
      rfl
    rw [e2]
  rw [e, slice_tx _ (Nat.zero_le _) (by simp)]
  simp
/-- letters and figures among the first 128 signs -/
def al (c : Nat) : Bool := (65 ≤ c && c ≤ 90) || (97 ≤ c && c ≤ 122)
def dg (c : Nat) : Bool := 48 ≤ c && c ≤ 57
theorem isalpha_one : ∀ c, c < 128 → Txt.isalpha (tx [c]) = al c := by decide +kernel
theorem isdigit_one : ∀ c, c < 128 → Txt.isdigit (tx [c]) = dg c := by decide +kernel
theorem isalpha_nil : Txt.isalpha (tx []) = false := by decide +kernel
theorem isdigit_nil : Txt.isdigit (tx []) = false := by decide +kernel
theorem ofString_nil : (Str.ofString "" : Str) = tx [] := by decide +kernel
theorem ofString_sp : (Str.ofString " " : Str) = tx [32] := by decide +kernel
theorem empty_tx (r : List Nat) : Str.ofString "" ++ tx r = tx r := by rw [ofString_nil, tx_app]; rfl
theorem rd_true {r : List Nat} (h : (Str.ofString "" ++ tx r == Str.ofString "") = true) : r = [] := by
  rw [empty_tx, ofString_nil] at h
  exact tx_inj (beq_iff_eq.mp h)
theorem rd_false {r : List Nat} (h : (Str.ofString "" ++ tx r == Str.ofString "") = false) : r.isEmpty = false := by
  rw [empty_tx, ofString_nil] at h
  cases r with
  | nil => rw [beq_self_eq_true] at h; cases h
  | cons a b => rfl
theorem rd_never {c : Nat} {r : List Nat} (h : (Str.ofString "" ++ tx [c] ++ tx r == Str.ofString "") = true) : False := by
  rw [empty_tx, ofString_nil, tx_app] at h
  have := tx_inj (beq_iff_eq.mp h)
  cases this
theorem two_tx (c : Nat) (r : List Nat) : Str.ofString "" ++ tx [c] ++ tx r = tx (c :: r) := by rw [empty_tx, tx_app]; rfl
theorem two_len {c : Nat} {r : List Nat} (h : (tx r).length ≤ 1000) : (tx (c :: r)).length ≤ 1001 := by rw [tx_len] at h ⊢; simp only [List.length_cons]; omega
theorem no_false {c : Nat} {r : List Nat} {P : Prop} (h : (tx (c :: r) == Str.ofString "") = true) : P := by
  rw [ofString_nil] at h
  have := tx_inj (beq_iff_eq.mp h)
  cases this
theorem no_true {P : Prop} (h : (tx [] == Str.ofString "") = false) : P := by
  rw [ofString_nil, beq_self_eq_true] at h
  cases h
/-! ### a call whose ledger is a part of the caller's -/
def LxOff (led rest : List (Addr × Obj)) : Prop := ∀ p ∈ led, ∀ q ∈ rest, p.1 ≠ q.1
theorem LxOff.nil {rest : List (Addr × Obj)} : LxOff [] rest := fun _ h => nomatch h
theorem LxOff.cons {p : Addr × Obj} {l rest : List (Addr × Obj)} (h : ∀ q ∈ rest, p.1 ≠ q.1) (r : LxOff l rest) : LxOff (p :: l) rest := fun x hx => by
  rcases List.mem_cons.mp hx with rfl | hx
  · exact h
  · exact r x hx
def LxBack (g h₀ : Heap) (L : Addr) (pre post : List (Addr × Obj)) (R : Result → Shared → Prop) (r : Result) (s' : Shared) : Prop :=
  (∀ led' L', News h₀ L s'.heap led' → News g L' s'.heap led' → News h₀ L s'.heap (pre ++ (led' ++ post)) ∧ LxOff led' (pre ++ post)) → R r s'

theorem code_lx {prog : Program} {w : World} {A A₀ : Around} {s : Shared} {K : Frag} {L : Addr} {h₀ base : Heap} {m mg mb : Str → Option Value} {p : Program} {loose : List Str} {mean : ExcName → Option Value}
    {env : Env} {outer : List Env} {R : Result → Shared → Prop} {name qual : Str} {params : Arguments} {body : List Stmt} {scope : Scope} {dV kV doc pm cdv ct oc : Value} {an od : Option Addr} {osl : Array (Option Value)} {f : Addr} {args : Args} {binds : List (Str × Value)}
    {pre led post : List (Addr × Obj)}
    (B : Below A₀ base outer h₀) (F : Fr h₀ L s.heap m) (X₀ : K.In h₀) (N : News h₀ L s.heap (pre ++ (led ++ post))) (hoff : LxOff led (pre ++ post)) (T : Top p loose mean mg mb h₀) (hA : A.frames = some (env :: outer)) (hf : env.frame = some L) (hke : env.scope.kind = .function)
    (ho : K.lookup f = some ⟨oc, od, .func (fnOf name qual params body scope dV kV doc pm an cdv ct), osl⟩) (hcd : codeIn K cdv qual = true) (hroom : A.depth < recursionLimit)
    (hbind : BindsTo s (fnOf name qual params body scope dV kV doc pm an cdv ct) args binds) (hloc : ∀ y ∈ binds, scope.names.lookup y.1 = some .local)
    (h : ∀ g L' h₁, Fr h₀ L g m → Fr g L' h₁ (fun y => binds.reverse.lookup y) → News g L' h₁ led → Below A base (env :: outer) g → K.In g → Top p loose mean mg mb g → (∀ p ∈ led, p.1 < L') →
      wpAny (model prog w) (A.deeper (envOf qual scope L' f cdv)) (execs body (envOf qual scope L' f cdv))
        (fun fl s' => LeaveK h₀ L m g (LxBack g h₀ L pre post R) (match fl with | .ret v => v | _ => .none) s')
        (fun e s' => wpAny (model prog w) (A.deeper (envOf qual scope L' f cdv)) (leaving (envOf qual scope L' f cdv) e) (fun _ s'' => R (.error e) s'') (fun e' s'' => R (.error e') s'') s')
        { s with heap := h₁, toks := s.toks + binds.length })
    (hco : scope.isCoroutine = false) (hgen : scope.isGenerator = false) (hk : scope.kind = .function)
    (hcell : ∀ x ∈ scope.names, x.2 ≠ .cell) : codeAny (model prog w) A (.call (.ref f) args) R s := by
  have Nl : News h₀ L s.heap led := fun q hq => N q (List.mem_append_right _ (List.mem_append_left _ hq))
  have Nr : News h₀ L s.heap (pre ++ post) := fun q hq => N q (by
    rcases List.mem_append.mp hq with h | h
    · exact List.mem_append_left _ h
    · exact List.mem_append_right _ (List.mem_append_right _ h))
  obtain ⟨FG, BG, st, _⟩ := groundX (R := R) B F Nl hA hf hke
  obtain ⟨_, _, _, lv⟩ := groundX (R := LxBack (hideAll s.heap (led.map (·.1))) h₀ L pre post R) B F Nl hA hf hke
  have X := X₀.keeps F.keep
  refine codeAny_call_def (fd := fnOf name qual params body scope dV kV doc pm an cdv ct) (body := body) (binds := binds) hroom (X _ _ ho) rfl (T.nolimit.keeps F.keep) (codeRec_of X hcd) rfl hbind hcell hloc (fun h₁ hns hk₁ => ?_) hco hgen hk
  refine wpAny_mono (h _ s.heap.objs.size h₁ FG ⟨hns, fun b o e => hk₁ b o (of_hideAll _ e), Nat.le_of_eq (hideAll_size _ _)⟩
    (fun p hp => ⟨hk₁ _ _ (Nl p hp).1, Nat.ne_of_lt (Heap.lt_size (Nl p hp).1), hideAll_none _ (List.mem_map_of_mem hp)⟩) BG (X₀.keeps st) (T.keeps st) (fun p hp => Heap.lt_size (Nl p hp).1)) (fun fl s' hl => ?_) fun _ _ y => y
  have keepR : ∀ s' : Shared, (∀ b o, (hideAll s.heap (led.map (·.1))).get? b = some o → s'.heap.get? b = some o) → ∀ q ∈ pre ++ post, s'.heap.get? q.1 = some q.2 := fun s' k q hq =>
    k _ _ (hideAll_get _ (Nr q hq).1 fun hm => by
      obtain ⟨p, hp, e⟩ := List.mem_map.mp hm
      exact hoff p hp q hq e)
  have hl' := hl
  obtain ⟨L', m', news', F', N', k⟩ := hl
  refine lv _ _ hl' ?_
  intro led' L'' N1 N2
  have kk := keepR s' F'.keep
  refine ⟨fun q hq => ?_, fun p hp q hq e => ?_⟩
  · rcases List.mem_append.mp hq with h | h
    · exact ⟨kk q (List.mem_append_left _ h), (Nr q (List.mem_append_left _ h)).2⟩
    · rcases List.mem_append.mp h with h | h
      · exact N1 q h
      · exact ⟨kk q (List.mem_append_right _ h), (Nr q (List.mem_append_right _ h)).2⟩
  · have h1 := (N2 p hp).2.2
    have h2 : (hideAll s.heap (led.map (·.1))).get? q.1 = some q.2 := hideAll_get _ (Nr q hq).1 fun hm => by
      obtain ⟨p, hp, e⟩ := List.mem_map.mp hm
      exact hoff p hp q hq e
    rw [e, h2] at h1
    cases h1
abbrev ent (w : World) (k : String) (t : Tok) (v : Value) : DictEntry := ⟨PyData.keyHash w.params (Str.ofString k), .str (Str.ofString k) t, v⟩
/-! ### a lexer's dict: six written entries, and what the law lays behind them -/
structure MoreOk (more : List DictEntry) : Prop where
  len : more.length ≤ 2
  keys : ∀ e ∈ more, ∃ x t, e.key = .str x t ∧ (x = Str.ofString "minalpha" ∨ x = Str.ofString "mindigits")
theorem MoreOk.nil : MoreOk [] := ⟨by simp, fun _ h => nomatch h⟩
theorem MoreOk.noRef {more : List DictEntry} (h : MoreOk more) : more.any (·.refKey) = false := by
  rw [List.any_eq_false]
  intro e he
  obtain ⟨x, t, hk, _⟩ := h.keys e he
  simp [DictEntry.refKey, hk]
theorem MoreOk.miss {more : List DictEntry} (h : MoreOk more) {name : Str} (n1 : (name == Str.ofString "minalpha") = false) (n2 : (name == Str.ofString "mindigits") = false) : more.find? (·.key.isStr name) = none := by
  rw [List.find?_eq_none]
  intro e he
  obtain ⟨x, t, hk, hx⟩ := h.keys e he
  rw [hk]
  show ¬ ((x == name) = true)
  intro hxn
  have hxn := beq_iff_eq.mp hxn
  subst hxn
  rcases hx with rfl | rfl
  · rw [beq_self_eq_true] at n1; cases n1
  · rw [beq_self_eq_true] at n2; cases n2
section
variable {name : Str} {e1 e2 e3 e4 e5 e6 : DictEntry} {more : List DictEntry} {v : Value} {hsh : Int} {key : Value}
theorem get6_hit (_hm : MoreOk more) (h : getL name [e1, e2, e3, e4, e5, e6] = some (some v)) : getL name (e1 :: e2 :: e3 :: e4 :: e5 :: e6 :: more) = some (some v) := by
  have e : e1 :: e2 :: e3 :: e4 :: e5 :: e6 :: more = [e1, e2, e3, e4, e5, e6] ++ more := rfl
  unfold getL at h ⊢
  rw [e, List.find?_append]
  cases q : List.find? (fun x => x.key.isStr name) [e1, e2, e3, e4, e5, e6] with
  | some x => rw [q] at h; exact h
  | none =>
    rw [q] at h
    dsimp only at h
    split at h
    · cases h
    · cases h
theorem get6_is (hm : MoreOk more) (h : (getL name [e1, e2, e3, e4, e5, e6]).isSome = true) (h2 : getL name [e1, e2, e3, e4, e5, e6] ≠ some none) : (getL name (e1 :: e2 :: e3 :: e4 :: e5 :: e6 :: more)).isSome = true := by
  cases q : getL name [e1, e2, e3, e4, e5, e6] with
  | none => rw [q] at h; cases h
  | some o =>
    cases o with
    | none => exact absurd q h2
    | some v => rw [get6_hit hm q]; rfl
theorem get6_miss (hm : MoreOk more) (n1 : (name == Str.ofString "minalpha") = false) (n2 : (name == Str.ofString "mindigits") = false) (h : getL name [e1, e2, e3, e4, e5, e6] = some none) : getL name (e1 :: e2 :: e3 :: e4 :: e5 :: e6 :: more) = some none := by
  have e : e1 :: e2 :: e3 :: e4 :: e5 :: e6 :: more = [e1, e2, e3, e4, e5, e6] ++ more := rfl
  unfold getL at h ⊢
  rw [e, List.find?_append, List.any_append, hm.noRef, hm.miss n1 n2, Bool.or_false]
  cases q : List.find? (fun x => x.key.isStr name) [e1, e2, e3, e4, e5, e6] with
  | some x => rw [q] at h; exact h
  | none => rw [q] at h; exact h
theorem putL_hit {es more : List DictEntry} (h : es.any (·.key.isStr name) = true) : putL name hsh key v (es ++ more) = putL name hsh key v es ++ more := by
  induction es with
  | nil => cases h
  | cons e r ih =>
    rw [List.cons_append]
    unfold putL
    by_cases hk : e.key.isStr name = true
    · rw [if_pos hk, if_pos hk]; rfl
    · rw [if_neg hk, if_neg hk, List.cons_append, ih]
      rw [List.any_cons] at h
      simpa [hk] using h
theorem put6 {f1 f2 f3 f4 f5 f6 : DictEntry} {n : Nat} (_hm : MoreOk more) (h : (putL name hsh key v [e1, e2, e3, e4, e5, e6], putN name [e1, e2, e3, e4, e5, e6] 0) = ([f1, f2, f3, f4, f5, f6], 0)) :
    (putL name hsh key v (e1 :: e2 :: e3 :: e4 :: e5 :: e6 :: more), putN name (e1 :: e2 :: e3 :: e4 :: e5 :: e6 :: more) n) = (f1 :: f2 :: f3 :: f4 :: f5 :: f6 :: more, n) := by
  have e : e1 :: e2 :: e3 :: e4 :: e5 :: e6 :: more = [e1, e2, e3, e4, e5, e6] ++ more := rfl
  obtain ⟨h1, h2⟩ := Prod.mk.inj h
  have ha : List.any [e1, e2, e3, e4, e5, e6] (·.key.isStr name) = true := by
    unfold putN at h2
    split at h2
    · assumption
    · cases h2
  rw [e, putL_hit ha, h1]
  unfold putN
  rw [List.any_append, ha, Bool.true_or, if_pos rfl]
  rfl
end
structure LexT where
  kf : Tok
  kd : Tok
  kq : Tok
  ks : Tok
  kc : Tok
  ke : Tok
  nE : Nat
  more : List DictEntry
abbrev lexObj (w : World) (y : LexT) (f q : Nat) (st : Value) (eof : Bool) : Obj :=
  dictOf (ent w "f" y.kf (.ref f) :: ent w "debug" y.kd (.bool false) :: ent w "q" y.kq (.ref q) :: ent w "state" y.ks st :: ent w "escaped" y.kc (.bool false) :: ent w "eof" y.ke (.bool eof) :: y.more) y.nE
/-- the signs that wait -/
abbrev qOf (q : List (Nat × Tok)) : List Value := q.map fun p => .str (tx [p.1]) p.2
structure SioT where
  k1 : Tok
  v1 : Tok
  k2 : Tok
  v2 : Tok
  k3 : Tok
abbrev sioObj (w : World) (z : SioT) (l : List Nat) (pos : Nat) (tp : Tok) : Obj :=
  dictOf [ent w "_StringIO__newline" z.k1 (.str (Str.ofString "\n") z.v1), ent w "_StringIO__buf" z.k2 (.str (tx l) z.v2), ent w "_StringIO__pos" z.k3 (.int (pos : Int) tp)] 3
/-! ### list.extend by a text of no sign, of one -/
section
variable {prog : Program} {w : World} {A : Around} {E : Value → Shared → Prop} {s : Shared} {h₀ : Heap} {L D : Addr} {m : Str → Option Value} {news news' : List (Addr × Obj)} {its : Array Value} {n : Nat} {t : Tok} {c : Nat} {Q : Value → Shared → Prop}
theorem lx_extend_call {x : Str} (hT : s.TypeIs (.ref D) "list")
    (h : wpAny (model prog w) A.in1 (Builtin.List.listExtendWith (.ref D) (.str x t) .none)
      (fun fin s' => match fin with | .done f => (match f with | .ret v => Q v s' | _ => False) | .again c' => c'.quiet = true ∧ codeAny (model prog w) A c' (fun r s' => match r with | .ok (.ret v) => Q v s' | .ok _ => False | .error e => E e s') s') E s) :
    wpAny (model prog w) A (call (.builtin "list.extend") [.ref D, .str x t]) Q E s := by
  refine wpAny_call (codeAny_call_builtin PySem.F.slot_list_extend.plain PySem.F.entry_list_extend (PySem.F.slot_list_extend.check _ _ _ _ _ _ _ _ hT (PySem.F.args_list_extend_2 _ _) ?_))
  show wpAny _ A.in1 (Builtin.List.listExtendWith (.ref D) (.str x t) .none) _ _ s
  refine wpAny_mono h (fun fin s' h' => ?_) fun _ _ h' => h'
  cases fin with
  | done f => cases f <;> exact h'
  | again c' => exact h'
theorem lx_extend1 (hh : A.handled = none) (F : Fr h₀ L s.heap m) (N : News h₀ L s.heap news)
    {g : Obj → List (Addr × Obj)} (U : UpdF D (listOf #[] n) news g)
    (h : ∀ h' tk u c', Fr h₀ L h' m → News h₀ L h' (g (listOf #[.str (tx [c]) u] c')) → Q .none { s with heap := h', toks := tk }) :
    wpAny (model prog w) A (call (.builtin "list.extend") [.ref D, .str (tx [c]) t]) Q E s := by
  obtain ⟨pre, post, e, e2, a, b⟩ := U.split
  have hD : (D, listOf #[] n) ∈ news := by rw [e]; simp
  have z := N _ hD
  refine lx_extend_call ⟨_, z.1, rfl⟩ ?_
  refine wpAny_mono (wpAny_extend_str (R := fun r s' => match r with | .ok (.ret v) => Q v s' | .ok _ => False | .error e => E e s') hh (tx [c]) t D .none n z.1 (fun h' tk acc' c' hk hS' hacc => ?_) (by show 1 ≤ sizeLine; decide)) (fun fin s' h' => ?_) fun _ _ h' => h'
  · obtain ⟨h1, h2⟩ := hacc
    have e1 : acc'.size = 1 := h1
    obtain ⟨v, hv⟩ : ∃ v, acc' = #[v] := by
      obtain ⟨l⟩ := acc'
      match l, e1 with
      | [v], _ => exact ⟨v, rfl⟩
    subst hv
    obtain ⟨c0, u, hc, rfl⟩ := h2 0 v rfl
    have : c0 = c := by
      have hc' : ([c] : List Nat).toArray[0]? = some c0 := hc
      simpa using hc'.symm
    subst this
    refine h h' tk u c' ⟨?_, fun b o e => ?_, F.above⟩ ?_
    · obtain ⟨oL, es, ep, hL, r⟩ := F.ns
      exact ⟨oL, es, ep, hk _ _ (fun q => z.2.1 q.symm) hL, r⟩
    · exact hk _ _ (fun q => by have := z.2.2; rw [← q, e] at this; cases this) (F.keep b o e)
    · rw [e2]
      have N := N
      rw [e] at N
      intro p hp
      rcases List.mem_append.mp hp with q | q
      · have P := N p (List.mem_append_left _ q); exact ⟨hk _ _ (a p q) P.1, P.2⟩
      · rcases List.mem_cons.mp q with rfl | q
        · exact ⟨hS', z.2⟩
        · have P := N p (List.mem_append_right _ (.tail _ q)); exact ⟨hk _ _ (b p q) P.1, P.2⟩
  · cases fin with
    | done f => cases f <;> exact h'
    | again c' => exact h'
theorem lx_extend0 (hh : A.handled = none) (F : Fr h₀ L s.heap m) (N : News h₀ L s.heap news) (hD : (D, listOf its n) ∈ news)
    (h : ∀ h' tk, Fr h₀ L h' m → News h₀ L h' news → Q .none { s with heap := h', toks := tk }) :
    wpAny (model prog w) A (call (.builtin "list.extend") [.ref D, .str (tx []) t]) Q E s := by
  have z := N _ hD
  refine lx_extend_call ⟨_, z.1, rfl⟩ ?_
  unfold Builtin.List.listExtendWith
  refine wpAny_bind (wpAny_typeOf (T := "str") (v := .str (tx []) t) rfl ?_)
  have h1 : Builtin.List.listSameRef (.ref D) (.str (tx []) t) = false := rfl
  have h2 : (Value.type "str" == Value.type "list") = false := by decide
  have h3 : (Value.type "str" == Value.type "tuple") = false := by decide
  simp only [h1, h2, h3, Bool.or_false, Bool.false_eq_true, if_false]
  refine wpAny_bind (wpAny_pyIter_str fun o St W hst => ?_)
  refine wpAny_bind (wpAny_holding ?_)
  unfold Builtin.List.listLengthHint
  refine wpAny_bind (wpAny_specialOf (T := "str") (v := .str (tx []) t) rfl PySem.F.str_len ?_)
  wp_delta
  refine wpAny_bind (wpAny_isInstance (T := "str") (v := .str (tx []) t) (b := true) rfl (by rw [isSubtype_type]; kernel_rfl) ?_)
  show wpAny _ _ (typeOf (Value.str (tx []) t) >>= _) _ _ _
  refine wpAny_bind (wpAny_typeOf (T := "str") (v := .str (tx []) t) rfl ?_)
  refine wpAny_pure ?_
  rw [if_neg (by decide)]
  refine wpAny_pure ⟨plainId_quiet PySem.F.plain_extend_loop _, ?_⟩
  refine codeAny_builtin PySem.F.entry_extend_loop ?_
  rw [Around.under_plainId PySem.F.plain_extend_loop _]
  show wpAny _ A.in1 (pyNext (.ref s.heap.objs.size) >>= _) _ _ _
  have W' := (W A.in1 hh).toS
  refine wpAny_bind (W'.done _ _ _ hst fun s' hm => ?_)
  have hk : ∀ b o, s.heap.get? b = some o → s'.heap.get? b = some o := fun b o e => hm.heap b o (fun hmem => absurd (Heap.lt_size e) (by rw [List.mem_singleton.mp hmem]; exact Nat.lt_irrefl _)) (Heap.get?_push_of_some _ e)
  refine wpAny_pure ?_
  show Q .none s'
  rw [Moved.eq_with hm]
  obtain ⟨oL, es, ep, hL, r⟩ := F.ns
  exact h s'.heap s'.toks ⟨⟨oL, es, ep, hk _ _ hL, r⟩, fun b o e => hk _ _ (F.keep b o e), F.above⟩ fun p hp => ⟨hk _ _ (N p hp).1, (N p hp).2⟩
end
/-! ### list of a text of no sign, of one -/
def AllNe (a : Nat) : List (Addr × Obj) → Prop
  | [] => True
  | p :: r => @Ne Nat a p.1 ∧ AllNe a r
theorem allNe_of {a : Nat} : ∀ {l : List (Addr × Obj)}, (∀ p ∈ l, a ≠ p.1) → AllNe a l
  | [], _ => trivial
  | p :: _, h => ⟨h p (.head _), allNe_of fun q hq => h q (.tail _ hq)⟩
theorem LxOff.last {led rest : List (Addr × Obj)} {q : Nat} {o : Obj} (h : LxOff led rest) (hm : (q, o) ∈ led) : AllNe q rest := allNe_of fun p hp => h _ hm p hp
section
variable {prog : Program} {w : World} {A : Around} {E : Value → Shared → Prop} {s : Shared} {h₀ : Heap} {L : Addr} {m : Str → Option Value} {news : List (Addr × Obj)} {t : Tok} {c : Nat} {Q : Value → Shared → Prop}
theorem lx_list0 (hh : A.handled = none) (F : Fr h₀ L s.heap m) (N : News h₀ L s.heap news)
    (h : ∀ (p : Nat) h' tk c', Fr h₀ L h' m → News h₀ L h' ((p, listOf #[] c') :: news) → (∀ q ∈ news, q.1 < p) → Q (.ref p) { s with heap := h', toks := tk }) :
    wpAny (model prog w) A (call (.type "list") [.str (tx []) t]) Q E s := by
  refine call_list_str hh (tx []) t (fun h' tk acc' c' hk hS' hacc => ?_) (by show 0 ≤ sizeLine; decide)
  have e1 : acc'.size = 0 := hacc.1
  have e2 : acc' = #[] := Array.eq_empty_of_size_eq_zero e1
  subst e2
  obtain ⟨oL, es, ep, hL, r⟩ := F.ns
  refine h s.heap.objs.size h' tk c' ⟨⟨oL, es, ep, hk _ _ hL, r⟩, fun b o e => hk _ _ (F.keep b o e), F.above⟩ (fun p hp => ?_) fun q hq => Heap.lt_size (N q hq).1
  rcases List.mem_cons.mp hp with rfl | hp
  · refine ⟨hS', Nat.ne_of_gt (Heap.lt_size hL), ?_⟩
    cases q : h₀.get? s.heap.objs.size with
    | none => rfl
    | some o => exact absurd (Heap.lt_size (F.keep _ _ q)) (Nat.lt_irrefl _)
  · exact ⟨hk _ _ (N p hp).1, (N p hp).2⟩
theorem lx_list1 (hh : A.handled = none) (F : Fr h₀ L s.heap m) (N : News h₀ L s.heap news)
    (h : ∀ (p : Nat) h' tk u c', Fr h₀ L h' m → News h₀ L h' ((p, listOf #[.str (tx [c]) u] c') :: news) → (∀ q ∈ news, q.1 < p) → Q (.ref p) { s with heap := h', toks := tk }) :
    wpAny (model prog w) A (call (.type "list") [.str (tx [c]) t]) Q E s := by
  refine call_list_str hh (tx [c]) t (fun h' tk acc' c' hk hS' hacc => ?_) (by show 1 ≤ sizeLine; decide)
  obtain ⟨h1, h2⟩ := hacc
  have e1 : acc'.size = 1 := h1
  obtain ⟨v, hv⟩ : ∃ v, acc' = #[v] := by
    obtain ⟨l⟩ := acc'
    match l, e1 with
    | [v], _ => exact ⟨v, rfl⟩
  subst hv
  obtain ⟨c0, u, hc, rfl⟩ := h2 0 v rfl
  have : c0 = c := by
    have hc' : ([c] : List Nat).toArray[0]? = some c0 := hc
    simpa using hc'.symm
  subst this
  obtain ⟨oL, es, ep, hL, r⟩ := F.ns
  refine h s.heap.objs.size h' tk u c' ⟨⟨oL, es, ep, hk _ _ hL, r⟩, fun b o e => hk _ _ (F.keep b o e), F.above⟩ (fun p hp => ?_) fun q hq => Heap.lt_size (N q hq).1
  rcases List.mem_cons.mp hp with rfl | hp
  · refine ⟨hS', Nat.ne_of_gt (Heap.lt_size hL), ?_⟩
    cases q : h₀.get? s.heap.objs.size with
    | none => rfl
    | some o => exact absurd (Heap.lt_size (F.keep _ _ q)) (Nat.lt_irrefl _)
  · exact ⟨hk _ _ (N p hp).1, (N p hp).2⟩
end
theorem lx_use {P G : Prop} (h : P) (k : P → G) : G := k h
/-! ### a while by an invariant over its whole state -/
def LxHold (P : Prop) : Prop := P
theorem lx_hold {P : Prop} (h : LxHold P) : P := h
theorem LxHold.out {P : Prop} (h : P) : LxHold P := h
section
variable {prog : Program} {w : World} {A : Around} {E : Value → Shared → Prop} {s : Shared} {env : Env} {test : PySem.Expr} {body : List Stmt} {Q : Flow → Shared → Prop}
def LxRest (prog : Program) (w : World) (A : Around) (E : Value → Shared → Prop) (env : Env) (test : PySem.Expr) (body : List Stmt) (Q : Flow → Shared → Prop) (s : Shared) : Prop :=
  WhlRest prog w A E env test body [] Q 1 s
def LxPost (I : Shared → Prop) (Q : Flow → Shared → Prop) (f : Flow) (s : Shared) : Prop :=
  match f with
  | .next => I s
  | .cont => I s
  | .brk => Q .next s
  | .ret v => Q (.ret v) s
/-- the invariant I n, n falls at each turn -/
theorem lx_while {pos : Pos} (I : Nat → Shared → Prop) (n : Nat) (h0 : I n s)
    (turn : ∀ n s, I n s → wpAny (model prog w) A (isTrue test env (eval test env)) (fun b s₂ =>
      WhlIf b (wpAny (model prog w) A (execs body env) (LxPost (fun s' => ∃ k, k < n ∧ I k s') Q) E s₂) (Q .next s₂)) E s)
    (hE : PassesOwn (model prog w) A env E) :
    wpAny (model prog w) A (exec (.While test body [] pos) env) Q E s := by
  refine whl_start 1 ?_
  have key : ∀ N n s, n < N → I n s → WhlRest prog w A E env test body [] Q 1 s := by
    intro N
    induction N with
    | zero => intro n s h; exact absurd h (Nat.not_lt_zero _)
    | succ N ih =>
      intro n s hn hI
      refine whl_turn (k := 1) hE (wpAny_mono (turn n s hI) (fun b s₂ h₂ => ?_) fun _ _ h => h)
      cases b with
      | false =>
        refine WhlIf.no rfl ?_
        have h₃ : Q .next s₂ := h₂
        exact wpAny_pure h₃
      | true =>
        refine WhlIf.yes rfl ?_
        refine wpAny_mono (show wpAny (model prog w) A (execs body env) (LxPost (fun s' => ∃ k, k < n ∧ I k s') Q) E s₂ from h₂) (fun f s₃ h₄ => ?_) fun _ _ h => h
        cases f with
        | next => obtain ⟨k, hk, hI'⟩ := h₄; exact ih k s₃ (by omega) hI'
        | cont => obtain ⟨k, hk, hI'⟩ := h₄; exact ih k s₃ (by omega) hI'
        | brk => exact h₄
        | ret v => exact h₄
  exact key (n + 1) n s (Nat.lt_succ_self n) h0
end
/-- a name stored again -/
theorem Fr.again {h₀ h : Heap} {L : Addr} {m : Str → Option Value} {k : Str} {a b : Option Value} (F : Fr h₀ L h (fun y => if y = k then a else if y = k then b else m y)) : Fr h₀ L h (fun y => if y = k then a else m y) := by
  have e : (fun y => if y = k then a else if y = k then b else m y) = fun y => if y = k then a else m y := by
    funext y
    by_cases hy : y = k
    · simp [hy]
    · simp [hy]
  rw [e] at F
  exact F
/-! ### what waits: the signs looked at already, and the rest of the text -/
inductive QRem : List Value → List Nat → Nat → List Nat → Prop
  | nil {l : List Nat} {pos : Nat} {rem : List Nat} : l.drop pos = rem → QRem [] l pos rem
  | one {l : List Nat} {pos c : Nat} {tc : Tok} {r : List Nat} : l.drop pos = r → QRem [.str (tx [c]) tc] l pos (c :: r)
/-! ### a call's result, told by what it hands back -/
def LxR (Q E : Value → Shared → Prop) (r : Result) (s' : Shared) : Prop := match r with
  | .ok (.ret v) => Q v s'
  | .ok _ => False
  | .error e => E e s'
section
variable {prog : Program} {w : World} {A : Around} {Q E : Value → Shared → Prop} {s : Shared} {f self : Value} {pos : List Value} {h₀ : Heap} {L q : Addr} {news : List (Addr × Obj)}
theorem lx_call (h : codeAny (model prog w) A (.call f ⟨pos, []⟩) (LxR Q E) s) : wpAny (model prog w) A (call f pos) Q E s := wpAny_call (codeAny_mono h fun r s' hr => by
  cases r with
  | error e => exact hr
  | ok fl => cases fl <;> exact hr)
theorem lx_meth (N : News h₀ L s.heap news) (hq : (q, methodObj f self) ∈ news) (h : codeAny (model prog w) A (.call f ⟨self :: pos, []⟩) (LxR Q E) s) : wpAny (model prog w) A (call (.ref q) pos) Q E s :=
  call_meth N hq (codeAny_mono h fun r s' hr => by
    cases r with
    | error e => exact hr
    | ok fl => cases fl <;> exact hr)
end
/-! ### lists of signs, their join; minalpha, mindigits -/
abbrev chs (ps : List (Nat × Tok)) : List Value := ps.map fun p => .str (tx [p.1]) p.2
abbrev tupOf (vs : List Value) : Obj := { cls := .type "tuple", data := .seq vs.toArray }
theorem chs_push (ps : List (Nat × Tok)) (c : Nat) (t : Tok) : (chs ps).toArray.push (.str (tx [c]) t) = (chs (ps ++ [(c, t)])).toArray := by simp [chs]
theorem join_tx : ∀ ps : List Nat, Txt.join (Str.ofString "") (ps.map fun c => tx [c]) = tx ps := by
  intro ps
  show Builtin.Str.glued (Str.ofString "") _ = _
  rw [StrLaws.glued_eq_join]
  induction ps with
  | nil => rfl
  | cons c r ih =>
    cases r with
    | nil => rfl
    | cons d r =>
      show tx [c] ++ Str.ofString "" ++ Str.join (Str.ofString "") (tx [d] :: r.map fun c => tx [c]) = _
      have ih' : Str.join (Str.ofString "") (tx [d] :: r.map fun c => tx [c]) = tx (d :: r) := ih
      rw [ih', ofString_nil, tx_app, tx_app]
      rfl
theorem join_fold (ps : List (Nat × Tok)) : ∀ k : Nat, List.foldl (fun (x1 : Nat) (x2 : Str) => x1 + x2.length + (Str.ofString "").length) k (ps.map fun p => tx [p.1]) = k + ps.length := by
  have z : (Str.ofString "").length = 0 := by decide
  induction ps with
  | nil => intro k; rfl
  | cons p r ih =>
    intro k
    rw [List.map_cons, List.foldl_cons, ih, z, tx_len, List.length_cons, List.length_cons, List.length_nil]
    omega
section
variable {prog : Program} {w : World} {A : Around} {E : Value → Shared → Prop} {s : Shared} {h₀ : Heap} {L D : Addr} {m : Str → Option Value} {news : List (Addr × Obj)} {n : Nat} {t : Tok} {ps : List (Nat × Tok)} {Q : Value → Shared → Prop}
theorem lx_join (N : News h₀ L s.heap news) (hD : (D, listOf (chs ps).toArray n) ∈ news) (hl : ps.length ≤ 1000)
    (h : ∀ t' k, (tx (ps.map (·.1))).length ≤ 1000 → Q (.str (tx (ps.map (·.1))) t') { s with toks := k }) :
    wpAny (model prog w) A (call (.builtin "str.join") [.str (Str.ofString "") t, .ref D]) Q E s := by
  have z := N _ hD
  refine PySem.SC.join (l := ps.map fun p => (tx [p.1], p.2)) (texts := (ps.map (·.1)).map fun c => tx [c]) ⟨_, z.1, rfl, n, ?_⟩ ?_ ?_ fun t' k => ?_
  · simp [strValues, chs]
  · simp
  · unfold JoinOk
    rw [List.map_map]
    have e := join_fold ps 0
    have e2 : (List.map ((fun c => tx [c]) ∘ fun (x : Nat × Tok) => x.fst) ps) = ps.map fun p => tx [p.1] := rfl
    rw [e2, ← Array.foldl_toList]
    have e3 : List.foldl (fun (x1 : Nat) (x2 : Str) => x1 + x2.length + (Str.ofString "").length) 0 (List.map (fun p => tx [p.fst]) ps).toArray.toList = ps.length := by simpa using e
    show (!Builtin.Str.tooLong (List.foldl (fun (x1 : Nat) (x2 : Str) => x1 + x2.length + (Str.ofString "").length) 0 (List.map (fun p => tx [p.fst]) ps).toArray.toList)) = true
    rw [e3]
    unfold Builtin.Str.tooLong
    have : ps.length ≤ sizeLine := Nat.le_trans hl (by decide)
    simp
    omega
  · rw [join_tx]
    exact h t' k (by rw [tx_len, List.length_map]; exact hl)
end
/-- what the law lays behind the six entries: nothing, or the two least sizes -/
def MoreIs (w : World) (more : List DictEntry) (a b : Int) : Prop :=
  (more = [] ∧ a = 4 ∧ b = 3) ∨ ∃ k1 k2 t1 t2, more = [ent w "minalpha" k1 (.int a t1), ent w "mindigits" k2 (.int b t2)]
theorem MoreIs.ok {w : World} {more : List DictEntry} {a b : Int} (h : MoreIs w more a b) : MoreOk more := by
  rcases h with ⟨rfl, _⟩ | ⟨k1, k2, t1, t2, rfl⟩
  · exact .nil
  · refine ⟨by simp, fun e he => ?_⟩
    rcases List.mem_cons.mp he with rfl | he
    · exact ⟨_, _, rfl, .inl rfl⟩
    · rw [List.mem_singleton.mp he]
      exact ⟨_, _, rfl, .inr rfl⟩
/-- the loop of lexAlpha, of lexDigits: what is taken, what is left -/
def AlphaI (w : World) (s : Shared) (g : Heap) (L' : Addr) (m₁ : Str → Option Value) (sl x dx f df q : Nat) (y : LexT) (st : Value) (z : SioT) (l rem : List Nat) (pr : Nat → Bool) (n : Nat) (s' : Shared) : Prop :=
  ∃ (ps : List (Nat × Tok)) (rem' : List Nat) (tc : Tok) (pos' : Nat) (tp' : Tok) (cq' ns : Nat) (h : Heap) (tk : Nat),
    n = rem'.length ∧ s' = { s with heap := h, toks := tk } ∧ Fr g L' h (fun y => if y = Str.ofString "c" then some (.str (tx (rem'.take 1)) tc) else m₁ y) ∧
    News g L' h [(sl, listOf (chs ps).toArray ns), (x, instObj 690 dx), (dx, lexObj w y f q st rem'.isEmpty), (f, instObj 569 df), (df, sioObj w z l pos' tp'), (q, listOf #[] cq')] ∧
    pos' ≤ 1000 ∧ l.drop pos' = rem'.drop 1 ∧ rem = ps.map (·.1) ++ rem' ∧ (∀ c ∈ ps.map (·.1), pr c = true)
theorem alphaI_start {w : World} {s : Shared} {g : Heap} {L' : Addr} {m₁ : Str → Option Value} {sl x dx f df q : Nat} {y : LexT} {st : Value} {z : SioT} {l rem : List Nat} {pr : Nat → Bool} {tc : Tok} {pos' : Nat} {tp' : Tok} {cq' ns : Nat}
    (F : Fr g L' s.heap (fun y => if y = Str.ofString "c" then some (.str (tx (rem.take 1)) tc) else m₁ y))
    (N : News g L' s.heap [(sl, listOf #[] ns), (x, instObj 690 dx), (dx, lexObj w y f q st (false || rem.isEmpty)), (f, instObj 569 df), (df, sioObj w z l pos' tp'), (q, listOf #[] cq')])
    (hp : pos' ≤ 1000) (hd : l.drop pos' = rem.drop 1) : AlphaI w s g L' m₁ sl x dx f df q y st z l rem pr rem.length s :=
  ⟨[], rem, tc, pos', tp', cq', ns, s.heap, s.toks, rfl, rfl, F, N, hp, hd, rfl, fun _ h => nomatch h⟩
theorem take_pred {pr : Nat → Bool} : ∀ {a b : List Nat}, (∀ c ∈ a, pr c = true) → (∀ c ∈ b.head?, pr c = false) → (a ++ b).takeWhile pr = a ∧ (a ++ b).dropWhile pr = b
  | [], [], _, _ => ⟨rfl, rfl⟩
  | [], c :: b, _, h => by
    have hc : pr c = false := h c rfl
    simp [List.takeWhile, List.dropWhile, hc]
  | c :: a, b, h, hb => by
    have ih := take_pred (fun d hd => h d (.tail _ hd)) hb
    have hc := h c (.head _)
    simp [List.takeWhile, List.dropWhile, hc, ih.1, ih.2]
section
variable {prog : Program} {w : World} {A : Around} {E : Value → Shared → Prop} {s : Shared} {h₀ : Heap} {L D : Addr} {m : Str → Option Value} {news news' : List (Addr × Obj)} {n c : Nat} {t : Tok} {ps : List (Nat × Tok)} {Q : Value → Shared → Prop}
theorem lx_append (F : Fr h₀ L s.heap m) (N : News h₀ L s.heap news) (hl : ps.length ≤ 1000) (U : Upd D (listOf (chs ps).toArray n) (listOf (chs (ps ++ [(c, t)])).toArray (n + 1)) news news')
    (h : ∀ h', Fr h₀ L h' m → News h₀ L h' news' → Q .none { s with heap := h' }) : wpAny (model prog w) A (call (.builtin "list.append") [.ref D, .str (tx [c]) t]) Q E s :=
  append_K F N (by rw [chs_push]; exact U) h (by simp only [List.size_toArray, List.length_map]; exact Nat.le_trans hl (by decide))
theorem lx_len (N : News h₀ L s.heap news) (hD : (D, listOf (chs ps).toArray n) ∈ news) (hl : ps.length ≤ 1000) (h : ∀ k tk, Q (.int (ps.length : Int) k) { s with toks := tk }) :
    wpAny (model prog w) A (call (.builtin "len") [.ref D]) Q E s := by
  refine len_list (items := (chs ps).toArray) ⟨_, (N _ hD).1, rfl, n, rfl⟩ (by simp only [List.size_toArray, List.length_map]; omega) ?_
  simp only [List.size_toArray, List.length_map]
  exact h _ _
end
/-! ### the loop of lexRandom -/
def other (c : Nat) : Bool := !al c && !dg c
theorem Fr.insert {h₀ h : Heap} {L : Addr} {M : Str → Option Value} {k : Str} {a : Option Value} (j : Str) (F : Fr h₀ L h (fun y => if y = k then a else M y)) : Fr h₀ L h (fun y => if y = k then a else if y = j then M j else M y) := by
  have e : (fun y => if y = k then a else if y = j then M j else M y) = fun y => if y = k then a else M y := by
    funext y
    by_cases hy : y = k
    · simp [hy]
    · by_cases hj : y = j
      · simp [hj]
      · simp [hy, hj]
  rw [e]
  exact F
theorem Fr.again3 {h₀ h : Heap} {L : Addr} {m : Str → Option Value} {k j n : Str} {a b c a' b' c' : Option Value}
    (F : Fr h₀ L h (fun y => if y = k then a else if y = j then b else if y = n then c else if y = k then a' else if y = j then b' else if y = n then c' else m y)) :
    Fr h₀ L h (fun y => if y = k then a else if y = j then b else if y = n then c else m y) := by
  have e : (fun y => if y = k then a else if y = j then b else if y = n then c else if y = k then a' else if y = j then b' else if y = n then c' else m y) = fun y => if y = k then a else if y = j then b else if y = n then c else m y := by
    funext y
    by_cases h1 : y = k
    · simp [h1]
    · by_cases h2 : y = j
      · simp [h1, h2]
      · by_cases h3 : y = n
        · simp [h1, h2, h3]
        · simp [h1, h2, h3]
  rw [e] at F
  exact F
def RandI (w : World) (s : Shared) (g : Heap) (L' : Addr) (m₁ : Str → Option Value) (x dx f df q : Nat) (y : LexT) (st : Value) (z : SioT) (l rem : List Nat) (n : Nat) (s' : Shared) : Prop :=
  ∃ (pre rem' : List Nat) (qs : List Value) (tc : Tok) (pos' : Nat) (tp' : Tok) (cq' : Nat) (k : Int) (tk1 : Tok) (u : Option Value) (h : Heap) (tk : Nat),
    n = rem'.length ∧ s' = { s with heap := h, toks := tk } ∧ Fr g L' h (fun y => if y = Str.ofString "c" then some (.str (tx (rem'.take 1)) tc) else if y = Str.ofString "_" then u else if y = Str.ofString "n" then some (.int k tk1) else m₁ y) ∧
    News g L' h [(x, instObj 690 dx), (dx, lexObj w y f q st rem'.isEmpty), (f, instObj 569 df), (df, sioObj w z l pos' tp'), (q, listOf qs.toArray cq')] ∧
    pos' ≤ 1000 ∧ QRem qs l pos' rem' ∧ rem = pre ++ rem' ∧ (∀ c ∈ pre, other c = true)
theorem randI_start {w : World} {s : Shared} {g : Heap} {L' : Addr} {m₁ : Str → Option Value} {x dx f df q : Nat} {y : LexT} {st : Value} {z : SioT} {l rem : List Nat} {tc : Tok} {pos' : Nat} {tp' : Tok} {cq' : Nat} {qs : List Value} {k : Int} {tk1 : Tok}
    (F : Fr g L' s.heap (fun y => if y = Str.ofString "c" then some (.str (tx (rem.take 1)) tc) else if y = Str.ofString "n" then some (.int k tk1) else m₁ y))
    (N : News g L' s.heap [(x, instObj 690 dx), (dx, lexObj w y f q st (false || rem.isEmpty)), (f, instObj 569 df), (df, sioObj w z l pos' tp'), (q, listOf qs.toArray cq')])
    (hp : pos' ≤ 1000) (hd : QRem qs l pos' rem) : RandI w s g L' m₁ x dx f df q y st z l rem rem.length s :=
  ⟨[], rem, qs, tc, pos', tp', cq', k, tk1, _, s.heap, s.toks, rfl, rfl, Fr.insert (Str.ofString "_") F, N, hp, hd, rfl, fun _ h => nomatch h⟩
theorem drop_other : ∀ {a b : List Nat}, (∀ c ∈ a, other c = true) → (∀ c ∈ b.head?, other c = false) → (a ++ b).dropWhile other = b := fun h1 h2 => (take_pred h1 h2).2
end
set_option linter.unusedVariables false
set_option maxRecDepth 100000
set_option maxHeartbeats 1600000
section
theorem reset0 : True := by
  w_top off
  trivial
/-! ### the lines (local) -/
local macro_rules | `(tactic| k_in) => `(tactic| first | with_reducible assumption | exact Frag.In.keeps (by with_reducible assumption) (Fr.keep (by with_reducible assumption)) | exact Frag.In.keeps (by with_reducible assumption) (Fr.keep (by k_asm)))
local macro_rules | `(tactic| k_room) => `(tactic| ktr_room)
/- entry into a def whose ledger is a part of the caller's -/
local macro_rules | `(tactic| ktr_enter) => `(tactic| (refine' code_lx ?k1 ?k2 ?k3 ?k4 ?kO ?k5 ?kA ?kF ?kK ?k6 ?k7 ?k8 ?k9 ?kB ?_ ?c2 ?c3 ?c4 ?c5; (case kA => exact rfl); (case kF => exact rfl); (case kK => first | exact rfl | assumption); (case k1 => k_asm); (case k2 => k_asm); (case k3 => k_asm); (case k4 => k_asm); (case kO => assumption); (case k5 => k_asm); (case k6 => k_is); (case k7 => k_is); (case k8 => k_room); (case k9 => first | exact BindsTo.of_eq rfl | exact binds_K (by k_in) rfl (by k_is) rfl rfl rfl | fail "k_enter: no rule for these arguments"); (case c5 => decide); (case kB => exact locs rfl); (case c2 => exact rfl); (case c3 => exact rfl); (case c4 => exact rfl); k_whole; intro g' L' h' FG' F' N' B' X' T' l1; (try k_lt l1); (try dsimp only); (try k_lift B'); (try k_fold)))
/- apartness -/
local macro_rules | `(tactic| ktr_rel) => `(tactic| first | assumption | ((try simp only [List.cons_append, List.nil_append, List.append_nil]); repeat (first | exact LxOff.nil | refine LxOff.cons (by k_all) ?_)))
/- a dict of six written entries and a tail -/
local macro_rules | `(tactic| k_get) => `(tactic| first
  | (refine' get6_hit ?hm ?h; (case hm => assumption); (case h => k_get))
  | (refine' get6_miss ?hm ?n1 ?n2 ?h; (case hm => assumption); (case n1 => decide +kernel); (case n2 => decide +kernel); (case h => k_get))
  | (refine' get6_is ?hm ?h ?h2; (case hm => assumption); (case h => k_get); (case h2 => (intro h9; exact absurd (h9.symm.trans (by k_get)) (by nofun)))))
local macro_rules | `(tactic| k_put) => `(tactic| (refine' put6 ?hm ?h; (case hm => assumption); (case h => k_put)))
local macro_rules | `(tactic| walk_at "setAttr ref") => `(tactic| (k_here; k_dflt ((refine' set_dict ?k1 ?k2 ?k3 ?k4 ?k5 ?k6 ?k7 ?k8 ?k9 ?k10 ?k11 ?k12 ?k13 ?_; (case k1 => k_asm); (case k2 => k_asm); (case k3 => k_asm); (case k4 => k_inst); (case k5 => exact rfl); (case k6 => k_is); (case k7 => k_is); (case k8 => k_is); (case k9 => k_is); (case k10 => k_get); (case k11 => k_put); (case k12 => k_upd); (case k13 => first | exact Nat.le_of_ble_eq_true rfl | (have h9 := MoreOk.len (by assumption); simp only [List.length_cons]; omega)); k_whole; intro h' F' N'; (try k_sweep)))))
local macro_rules | `(tactic| walk_at "call builtin:list.extend") => `(tactic| (k_here; (with_reducible show wpAny _ _ (call (Value.builtin _) [Value.ref _, Value.str _ _]) _ _ _); k_dflt (first
  | (refine' lx_extend0 ?hh ?F ?N ?D ?_; (case hh => exact rfl); (case F => k_asm); (case N => k_asm); (case D => k_mem); intro h' tk' F' N'; (try k_sweep))
  | (refine' lx_extend1 ?hh ?F ?N ?U ?_; (case hh => exact rfl); (case F => k_asm); (case N => k_asm); (case U => k_updF); intro h' tk' u' c' F' N'; (try dsimp only at N'); (try k_sweep)))))
local macro_rules | `(tactic| walk_at "call type:list") => `(tactic| (k_here; (with_reducible show wpAny _ _ (call (Value.type _) [Value.str _ _]) _ _ _); k_dflt (first
  | (refine' lx_list0 ?hh ?F ?N ?_; (case hh => exact rfl); (case F => k_asm); (case N => k_asm); intro p' h' tk' c' F' N' l1; (try k_lt l1); (try k_sweep))
  | (refine' lx_list1 ?hh ?F ?N ?_; (case hh => exact rfl); (case F => k_asm); (case N => k_asm); intro p' h' tk' u' c' F' N' l1; (try k_lt l1); (try k_sweep)))))
local macro_rules | `(tactic| tb_rel) => `(tactic| (refine' cb_drop ?cN ?cS; (case cN => assumption); (case cS => (repeat (first | exact List.forall_mem_nil _ | refine List.forall_mem_cons.mpr ⟨by k_mem, ?_⟩)))))
local macro_rules | `(tactic| walk_at "subscriptTail") => `(tactic| (k_here; (fail_if_success (with_reducible show wpAny _ _ (subscriptTail (PySem.Expr.Name _ _) _ _ _) _ _ _)); (with_reducible show wpAny _ _ (subscriptTail _ (PySem.Expr.Slice _ _ _ _) (Value.str _ _) _) _ _ _); k_dflt (refine kba_turn (value' := PySem.Expr.Name (PySem.Str.ofString "_") ⟨0, 0, 0, 0⟩) (fun _ => rfl) ?_)))
/-! ### StringIO.read -/
theorem sio_none {l : List Nat} {pos : Nat} {n : Int} (h : ((tx l).length : Int) ≤ (pos : Int)) : (l.drop pos).take n.toNat = [] := by
  rw [tx_len] at h
  rw [List.drop_of_length_le (by omega)]
  simp
theorem sio_some {l : List Nat} {pos : Nat} {n : Int} (h0 : 0 ≤ n) (h : ¬ ((tx l).length : Int) ≤ (pos : Int)) (h2 : (pos : Int) + n < ((tx l).length : Int)) :
    Txt.slice (Txt.slice (tx l) (some (pos : Int)) (some ((pos : Int) + n)) ++ Str.ofString " ") none (some (-1)) = tx ((l.drop pos).take n.toNat) ∧ (pos : Int) + n = ((pos + ((l.drop pos).take n.toNat).length : Nat) : Int) := by
  rw [tx_len] at h h2
  have e : (pos : Int) + n = ((pos + n.toNat : Nat) : Int) := by omega
  have hl : ((l.drop pos).take n.toNat).length = n.toNat := by simp; omega
  refine ⟨?_, by rw [hl, e]⟩
  rw [e, slice_tx l (by omega) (by omega), ofString_sp, slice_init]
  congr 3
  omega
theorem sio_rest {l : List Nat} {pos : Nat} {n : Int} (h0 : 0 ≤ n) (h : ¬ ((tx l).length : Int) ≤ (pos : Int)) (h2 : ¬ (pos : Int) + n < ((tx l).length : Int)) :
    Txt.slice (Txt.slice (tx l) (some (pos : Int)) (some ((tx l).length : Int)) ++ Str.ofString " ") none (some (-1)) = tx ((l.drop pos).take n.toNat) ∧ ((tx l).length : Int) = ((pos + ((l.drop pos).take n.toNat).length : Nat) : Int) := by
  have e0 : ((tx l).length : Int) = ((l.length : Nat) : Int) := by rw [tx_len]
  rw [e0] at h h2 ⊢
  have hl : ((l.drop pos).take n.toNat).length = l.length - pos := by simp; omega
  refine ⟨?_, by rw [hl]; omega⟩
  rw [slice_tx l (by omega) (by omega), ofString_sp, slice_init]
  have e9 : (l.drop pos).take (l.length - pos) = (l.drop pos).take n.toNat := by
    rw [List.take_of_length_le (by simp), List.take_of_length_le (by simp; omega)]
  rw [e9]

theorem sio_len {l : List Nat} {pos : Nat} {n : Int} (h : (tx l).length ≤ 1000) : (tx ((l.drop pos).take n.toNat)).length ≤ 1000 := by
  rw [tx_len] at h ⊢
  simp only [List.length_take, List.length_drop]
  omega
theorem sio_pos {l : List Nat} {pos : Nat} {n : Int} (h : (tx l).length ≤ 1000) (h2 : pos ≤ 1000) : pos + ((l.drop pos).take n.toNat).length ≤ 1000 := by
  rw [tx_len] at h
  simp only [List.length_take, List.length_drop]
  omega



















theorem sioRead {prog : Program} {w : World} {p : Program} {loose : List Str} {mean : ExcName → Option Value} {mg mb : Str → Option Value}
    {dp un : Nat} {gd : Option (List Code)} {cn : Str} {cs : Scope} {a : Addr} {ccd : Value} {cl : List (Str × Addr)} {outer : List Env} {A₀ : Around} {base h₀ : Heap} {L : Addr} {m : Str → Option Value} {s : Shared} {Q E : Value → Shared → Prop}
    {f df : Nat} {z : SioT} {tp : Tok} {l : List Nat} {pos : Nat} {n : Int} {tn : Tok} {pre post : List (Addr × Obj)}
    (B : Below A₀ base outer h₀) (F : Fr h₀ L s.heap m) (X : (hd.heap_39 w.params).In h₀)
    (N : News h₀ L s.heap (pre ++ ([(f, instObj 569 df), (df, sioObj w z l pos tp)] ++ post)))
    (Tp : Top p loose mean mg mb h₀) (hcs : cs.kind = .function) (hdp : dp + 3 < recursionLimit) (hun : un + 50 < cLine)
    (hoff : LxOff [(f, instObj 569 df), (df, sioObj w z l pos tp)] (pre ++ post)) (hside : df < f ∧ 0 ≤ n ∧ n ≤ 1000 ∧ (tx l).length ≤ 1000 ∧ pos ≤ 1000)
    (hret : ∀ t tp' h' tk', (tx ((l.drop pos).take n.toNat)).length ≤ 1000 → pos + ((l.drop pos).take n.toNat).length ≤ 1000 → Fr h₀ L h' m → News h₀ L h' (pre ++ ([(f, instObj 569 df), (df, sioObj w z l (pos + ((l.drop pos).take n.toNat).length) tp')] ++ post)) → Q (.str (tx ((l.drop pos).take n.toNat)) t) { s with heap := h', toks := tk' }) :
    wpAny (model prog w) (ktrTop dp un gd cn cs L a ccd cl outer) (call (.ref 515) [.ref f, .int n tn]) Q E s := by
  obtain ⟨hfd, hn, hn2, hT, hpos⟩ := hside
  have hr1 := sio_len (pos := pos) (n := n) hT
  have hr2 := sio_pos (n := n) hT hpos
  replace hret := fun t tp' h' tk' => hret t tp' h' tk' hr1 hr2
  refine wpAny_call ?_
  k_dflt ktr_enter
  k_steps
  all_goals (intro lift; have LL := (lift _ _ (by assumption) (by assumption)).1; clear lift; try dsimp only)
  · have e := sio_none (n := n) (by assumption)
    rw [e] at hret hr1 hr2
    rw [ofString_nil]
    exact hret _ _ _ _ (by assumption) LL
  · have e := sio_some hn (by assumption) (by assumption)
    rw [e.1]
    rw [e.2] at LL
    exact hret _ _ _ _ (by assumption) LL
  · have e := sio_rest hn (by assumption) (by assumption)
    rw [e.1]
    rw [e.2] at LL
    exact hret _ _ _ _ (by assumption) LL
end
section
theorem reset1 : True := by
  w_top off
  trivial
/-! ### the lines (local) -/
local macro_rules | `(tactic| k_in) => `(tactic| first | with_reducible assumption | exact Frag.In.keeps (by with_reducible assumption) (Fr.keep (by with_reducible assumption)) | exact Frag.In.keeps (by with_reducible assumption) (Fr.keep (by k_asm)))
local macro_rules | `(tactic| k_room) => `(tactic| ktr_room)
/- entry into a def whose ledger is a part of the caller's -/
local macro_rules | `(tactic| ktr_enter) => `(tactic| (refine' code_lx ?k1 ?k2 ?k3 ?k4 ?kO ?k5 ?kA ?kF ?kK ?k6 ?k7 ?k8 ?k9 ?kB ?_ ?c2 ?c3 ?c4 ?c5; (case kA => exact rfl); (case kF => exact rfl); (case kK => first | exact rfl | assumption); (case k1 => k_asm); (case k2 => k_asm); (case k3 => k_asm); (case k4 => k_asm); (case kO => assumption); (case k5 => k_asm); (case k6 => k_is); (case k7 => k_is); (case k8 => k_room); (case k9 => first | exact BindsTo.of_eq rfl | exact binds_K (by k_in) rfl (by k_is) rfl rfl rfl | fail "k_enter: no rule for these arguments"); (case c5 => decide); (case kB => exact locs rfl); (case c2 => exact rfl); (case c3 => exact rfl); (case c4 => exact rfl); k_whole; intro g' L' h' FG' F' N' B' X' T' l1; (try k_lt l1); (try dsimp only); (try k_lift B'); (try k_fold)))
/- apartness -/
local macro_rules | `(tactic| ktr_rel) => `(tactic| first | assumption | ((try simp only [List.cons_append, List.nil_append, List.append_nil]); repeat (first | exact LxOff.nil | refine LxOff.cons (by k_all) ?_)))
/- a dict of six written entries and a tail -/
local macro_rules | `(tactic| k_get) => `(tactic| first
  | (refine' get6_hit ?hm ?h; (case hm => assumption); (case h => k_get))
  | (refine' get6_miss ?hm ?n1 ?n2 ?h; (case hm => assumption); (case n1 => decide +kernel); (case n2 => decide +kernel); (case h => k_get))
  | (refine' get6_is ?hm ?h ?h2; (case hm => assumption); (case h => k_get); (case h2 => (intro h9; exact absurd (h9.symm.trans (by k_get)) (by nofun)))))
local macro_rules | `(tactic| k_put) => `(tactic| (refine' put6 ?hm ?h; (case hm => assumption); (case h => k_put)))
local macro_rules | `(tactic| walk_at "setAttr ref") => `(tactic| (k_here; k_dflt ((refine' set_dict ?k1 ?k2 ?k3 ?k4 ?k5 ?k6 ?k7 ?k8 ?k9 ?k10 ?k11 ?k12 ?k13 ?_; (case k1 => k_asm); (case k2 => k_asm); (case k3 => k_asm); (case k4 => k_inst); (case k5 => exact rfl); (case k6 => k_is); (case k7 => k_is); (case k8 => k_is); (case k9 => k_is); (case k10 => k_get); (case k11 => k_put); (case k12 => k_upd); (case k13 => first | exact Nat.le_of_ble_eq_true rfl | (have h9 := MoreOk.len (by assumption); simp only [List.length_cons]; omega)); k_whole; intro h' F' N'; (try k_sweep)))))
local macro_rules | `(tactic| walk_at "call builtin:list.extend") => `(tactic| (k_here; (with_reducible show wpAny _ _ (call (Value.builtin _) [Value.ref _, Value.str _ _]) _ _ _); k_dflt (first
  | (refine' lx_extend0 ?hh ?F ?N ?D ?_; (case hh => exact rfl); (case F => k_asm); (case N => k_asm); (case D => k_mem); intro h' tk' F' N'; (try k_sweep))
  | (refine' lx_extend1 ?hh ?F ?N ?U ?_; (case hh => exact rfl); (case F => k_asm); (case N => k_asm); (case U => k_updF); intro h' tk' u' c' F' N'; (try dsimp only at N'); (try k_sweep)))))
local macro_rules | `(tactic| walk_at "call type:list") => `(tactic| (k_here; (with_reducible show wpAny _ _ (call (Value.type _) [Value.str _ _]) _ _ _); k_dflt (first
  | (refine' lx_list0 ?hh ?F ?N ?_; (case hh => exact rfl); (case F => k_asm); (case N => k_asm); intro p' h' tk' c' F' N' l1; (try k_lt l1); (try k_sweep))
  | (refine' lx_list1 ?hh ?F ?N ?_; (case hh => exact rfl); (case F => k_asm); (case N => k_asm); intro p' h' tk' u' c' F' N' l1; (try k_lt l1); (try k_sweep)))))
local macro_rules | `(tactic| tb_rel) => `(tactic| (refine' cb_drop ?cN ?cS; (case cN => assumption); (case cS => (repeat (first | exact List.forall_mem_nil _ | refine List.forall_mem_cons.mpr ⟨by k_mem, ?_⟩)))))
/-! ### StringIO.read of one sign, of none -/
theorem sioRead_e {prog : Program} {w : World} {p : Program} {loose : List Str} {mean : ExcName → Option Value} {mg mb : Str → Option Value}
    {dp un : Nat} {gd : Option (List Code)} {cn : Str} {cs : Scope} {a : Addr} {ccd : Value} {cl : List (Str × Addr)} {outer : List Env} {A₀ : Around} {base h₀ : Heap} {L : Addr} {m : Str → Option Value} {s : Shared} {Q E : Value → Shared → Prop}
    {f df : Nat} {z : SioT} {tp : Tok} {l : List Nat} {pos : Nat} {tn : Tok} {pre post : List (Addr × Obj)}
    (B : Below A₀ base outer h₀) (F : Fr h₀ L s.heap m) (X : (hd.heap_39 w.params).In h₀)
    (N : News h₀ L s.heap (pre ++ ([(f, instObj 569 df), (df, sioObj w z l pos tp)] ++ post)))
    (Tp : Top p loose mean mg mb h₀) (hcs : cs.kind = .function) (hdp : dp + 3 < recursionLimit) (hun : un + 50 < cLine)
    (hoff : LxOff [(f, instObj 569 df), (df, sioObj w z l pos tp)] (pre ++ post)) (hside : df < f ∧ (tx l).length ≤ 1000 ∧ pos ≤ 1000 ∧ l.drop pos = [])
    (hret : ∀ t tp' h' tk', Fr h₀ L h' m → News h₀ L h' (pre ++ ([(f, instObj 569 df), (df, sioObj w z l (pos) tp')] ++ post)) → Q (.str (tx []) t) { s with heap := h', toks := tk' }) :
    wpAny (model prog w) (ktrTop dp un gd cn cs L a ccd cl outer) (call (.ref 515) [.ref f, .int 1 tn]) Q E s := by
  obtain ⟨hfd, hT, hpos, hr⟩ := hside
  refine sioRead B F X N Tp hcs hdp hun hoff ⟨hfd, by decide, by decide, hT, hpos⟩ ?_
  rw [hr]
  intro t tp' h' tk' _ _ F' N'
  exact hret t tp' h' tk' F' N'

theorem sioRead_c {prog : Program} {w : World} {p : Program} {loose : List Str} {mean : ExcName → Option Value} {mg mb : Str → Option Value}
    {dp un : Nat} {gd : Option (List Code)} {cn : Str} {cs : Scope} {a : Addr} {ccd : Value} {cl : List (Str × Addr)} {outer : List Env} {A₀ : Around} {base h₀ : Heap} {L : Addr} {m : Str → Option Value} {s : Shared} {Q E : Value → Shared → Prop}
    {f df c : Nat} {z : SioT} {tp : Tok} {l r : List Nat} {pos : Nat} {tn : Tok} {pre post : List (Addr × Obj)}
    (B : Below A₀ base outer h₀) (F : Fr h₀ L s.heap m) (X : (hd.heap_39 w.params).In h₀)
    (N : News h₀ L s.heap (pre ++ ([(f, instObj 569 df), (df, sioObj w z l pos tp)] ++ post)))
    (Tp : Top p loose mean mg mb h₀) (hcs : cs.kind = .function) (hdp : dp + 3 < recursionLimit) (hun : un + 50 < cLine)
    (hoff : LxOff [(f, instObj 569 df), (df, sioObj w z l pos tp)] (pre ++ post)) (hside : df < f ∧ (tx l).length ≤ 1000 ∧ pos ≤ 1000 ∧ l.drop pos = c :: r)
    (hret : ∀ t tp' h' tk', (tx [c]).length ≤ 1 → pos + 1 ≤ 1000 → Fr h₀ L h' m → News h₀ L h' (pre ++ ([(f, instObj 569 df), (df, sioObj w z l (pos + 1) tp')] ++ post)) → Q (.str (tx [c]) t) { s with heap := h', toks := tk' }) :
    wpAny (model prog w) (ktrTop dp un gd cn cs L a ccd cl outer) (call (.ref 515) [.ref f, .int 1 tn]) Q E s := by
  obtain ⟨hfd, hT, hpos, hr⟩ := hside
  refine sioRead B F X N Tp hcs hdp hun hoff ⟨hfd, by decide, by decide, hT, hpos⟩ ?_
  rw [hr]
  intro t tp' h' tk' _ h2 F' N'
  exact hret t tp' h' tk' (Nat.le_refl 1) h2 F' N'

theorem sioRead_0 {prog : Program} {w : World} {p : Program} {loose : List Str} {mean : ExcName → Option Value} {mg mb : Str → Option Value}
    {dp un : Nat} {gd : Option (List Code)} {cn : Str} {cs : Scope} {a : Addr} {ccd : Value} {cl : List (Str × Addr)} {outer : List Env} {A₀ : Around} {base h₀ : Heap} {L : Addr} {m : Str → Option Value} {s : Shared} {Q E : Value → Shared → Prop}
    {f df : Nat} {z : SioT} {tp : Tok} {l : List Nat} {pos : Nat} {n : Int} {tn : Tok} {pre post : List (Addr × Obj)}
    (B : Below A₀ base outer h₀) (F : Fr h₀ L s.heap m) (X : (hd.heap_39 w.params).In h₀)
    (N : News h₀ L s.heap (pre ++ ([(f, instObj 569 df), (df, sioObj w z l pos tp)] ++ post)))
    (Tp : Top p loose mean mg mb h₀) (hcs : cs.kind = .function) (hdp : dp + 3 < recursionLimit) (hun : un + 50 < cLine)
    (hoff : LxOff [(f, instObj 569 df), (df, sioObj w z l pos tp)] (pre ++ post)) (hside : df < f ∧ (tx l).length ≤ 1000 ∧ pos ≤ 1000 ∧ n = 0)
    (hret : ∀ t tp' h' tk', Fr h₀ L h' m → News h₀ L h' (pre ++ ([(f, instObj 569 df), (df, sioObj w z l (pos) tp')] ++ post)) → Q (.str (tx []) t) { s with heap := h', toks := tk' }) :
    wpAny (model prog w) (ktrTop dp un gd cn cs L a ccd cl outer) (call (.ref 515) [.ref f, .int n tn]) Q E s := by
  obtain ⟨hfd, hT, hpos, hr⟩ := hside
  subst hr
  refine sioRead B F X N Tp hcs hdp hun hoff ⟨hfd, by decide, by decide, hT, hpos⟩ ?_
  intro t tp' h' tk' _ h2 F' N'
  exact hret t tp' h' tk' F' N'
end
section
theorem reset2 : True := by
  w_top off
  trivial
/-! ### the lines (local) -/
local macro_rules | `(tactic| k_in) => `(tactic| first | with_reducible assumption | exact Frag.In.keeps (by with_reducible assumption) (Fr.keep (by with_reducible assumption)) | exact Frag.In.keeps (by with_reducible assumption) (Fr.keep (by k_asm)))
local macro_rules | `(tactic| k_room) => `(tactic| ktr_room)
/- entry into a def whose ledger is a part of the caller's -/
local macro_rules | `(tactic| ktr_enter) => `(tactic| (refine' code_lx ?k1 ?k2 ?k3 ?k4 ?kO ?k5 ?kA ?kF ?kK ?k6 ?k7 ?k8 ?k9 ?kB ?_ ?c2 ?c3 ?c4 ?c5; (case kA => exact rfl); (case kF => exact rfl); (case kK => first | exact rfl | assumption); (case k1 => k_asm); (case k2 => k_asm); (case k3 => k_asm); (case k4 => k_asm); (case kO => assumption); (case k5 => k_asm); (case k6 => k_is); (case k7 => k_is); (case k8 => k_room); (case k9 => first | exact BindsTo.of_eq rfl | exact binds_K (by k_in) rfl (by k_is) rfl rfl rfl | fail "k_enter: no rule for these arguments"); (case c5 => decide); (case kB => exact locs rfl); (case c2 => exact rfl); (case c3 => exact rfl); (case c4 => exact rfl); k_whole; intro g' L' h' FG' F' N' B' X' T' l1; (try k_lt l1); (try dsimp only); (try k_lift B'); (try k_fold)))
/- apartness -/
local macro_rules | `(tactic| ktr_rel) => `(tactic| first | assumption | ((try simp only [List.cons_append, List.nil_append, List.append_nil]); repeat (first | exact LxOff.nil | refine LxOff.cons (by k_all) ?_)))
/- a dict of six written entries and a tail -/
local macro_rules | `(tactic| k_get) => `(tactic| first
  | (refine' get6_hit ?hm ?h; (case hm => assumption); (case h => k_get))
  | (refine' get6_miss ?hm ?n1 ?n2 ?h; (case hm => assumption); (case n1 => decide +kernel); (case n2 => decide +kernel); (case h => k_get))
  | (refine' get6_is ?hm ?h ?h2; (case hm => assumption); (case h => k_get); (case h2 => (intro h9; exact absurd (h9.symm.trans (by k_get)) (by nofun)))))
local macro_rules | `(tactic| k_put) => `(tactic| (refine' put6 ?hm ?h; (case hm => assumption); (case h => k_put)))
local macro_rules | `(tactic| walk_at "setAttr ref") => `(tactic| (k_here; k_dflt ((refine' set_dict ?k1 ?k2 ?k3 ?k4 ?k5 ?k6 ?k7 ?k8 ?k9 ?k10 ?k11 ?k12 ?k13 ?_; (case k1 => k_asm); (case k2 => k_asm); (case k3 => k_asm); (case k4 => k_inst); (case k5 => exact rfl); (case k6 => k_is); (case k7 => k_is); (case k8 => k_is); (case k9 => k_is); (case k10 => k_get); (case k11 => k_put); (case k12 => k_upd); (case k13 => first | exact Nat.le_of_ble_eq_true rfl | (have h9 := MoreOk.len (by assumption); simp only [List.length_cons]; omega)); k_whole; intro h' F' N'; (try k_sweep)))))
local macro_rules | `(tactic| walk_at "call builtin:list.extend") => `(tactic| (k_here; (with_reducible show wpAny _ _ (call (Value.builtin _) [Value.ref _, Value.str _ _]) _ _ _); k_dflt (first
  | (refine' lx_extend0 ?hh ?F ?N ?D ?_; (case hh => exact rfl); (case F => k_asm); (case N => k_asm); (case D => k_mem); intro h' tk' F' N'; (try k_sweep))
  | (refine' lx_extend1 ?hh ?F ?N ?U ?_; (case hh => exact rfl); (case F => k_asm); (case N => k_asm); (case U => k_updF); intro h' tk' u' c' F' N'; (try dsimp only at N'); (try k_sweep)))))
local macro_rules | `(tactic| walk_at "call type:list") => `(tactic| (k_here; (with_reducible show wpAny _ _ (call (Value.type _) [Value.str _ _]) _ _ _); k_dflt (first
  | (refine' lx_list0 ?hh ?F ?N ?_; (case hh => exact rfl); (case F => k_asm); (case N => k_asm); intro p' h' tk' c' F' N' l1; (try k_lt l1); (try k_sweep))
  | (refine' lx_list1 ?hh ?F ?N ?_; (case hh => exact rfl); (case F => k_asm); (case N => k_asm); intro p' h' tk' u' c' F' N' l1; (try k_lt l1); (try k_sweep)))))
local macro_rules | `(tactic| tb_rel) => `(tactic| (refine' cb_drop ?cN ?cS; (case cN => assumption); (case cS => (repeat (first | exact List.forall_mem_nil _ | refine List.forall_mem_cons.mpr ⟨by k_mem, ?_⟩)))))
/- the call of a def by its contract: ktr_call CONTRACT PRE -/
local macro_rules | `(tactic| ktr_unf) => `(tactic| (intros; (with_reducible rename News _ _ _ _ => N9); (try simp only [List.cons_append, List.nil_append] at N9); (try dsimp only); (try k_fold); (try k_sweep)))
local macro_rules | `(tactic| tb_start) => `(tactic| ((repeat' apply And.intro) <;> first | assumption | omega | rfl))
local macro_rules | `(tactic| ktr_call $x:term $c:term) => `(tactic| (refine' $x (pre := $c) ?k1 ?k2 ?k3 ?k4 ?k5 ?kK ?kd ?ku ?kO ?kS ?_; (case k4 => k_asm); (case kS => tb_start); (case k1 => k_asm); (case k2 => k_asm); (case k3 => k_asm); (case k5 => k_asm); (case kK => first | exact rfl | assumption); (case kd => ktr_room); (case ku => ktr_units); (case kO => ktr_rel); ktr_unf))
local macro_rules | `(tactic| walk_at "exec While") => `(tactic| (k_here; k_dflt (refine whl_start 100 ?_)))
local macro_rules | `(tactic| walk_at "exec While BoolOp") => `(tactic| (k_here; k_dflt (refine whl_start 100 ?_)))
local macro_rules | `(tactic| walk_at "call ref") => `(tactic| (k_here; (with_reducible show wpAny _ _ (call (Value.ref 515) [Value.ref _, Value.int _ _] []) _ _ _); k_dflt (first
  | ktr_call sioRead_e [] | ktr_call sioRead_e [_] | ktr_call sioRead_e [_, _] | ktr_call sioRead_e [_, _, _] | ktr_call sioRead_e [_, _, _, _]
  | ktr_call sioRead_c [] | ktr_call sioRead_c [_] | ktr_call sioRead_c [_, _] | ktr_call sioRead_c [_, _, _] | ktr_call sioRead_c [_, _, _, _]
  | ktr_call sioRead_0 [] | ktr_call sioRead_0 [_] | ktr_call sioRead_0 [_, _] | ktr_call sioRead_0 [_, _, _] | ktr_call sioRead_0 [_, _, _, _]
  | ktr_call sioRead [] | ktr_call sioRead [_] | ktr_call sioRead [_, _] | ktr_call sioRead [_, _, _] | ktr_call sioRead [_, _, _, _])))
/-! ### Lexer.read -/
theorem lexRead0 {prog : Program} {w : World} {p : Program} {loose : List Str} {mean : ExcName → Option Value} {mg mb : Str → Option Value}
    {dp un : Nat} {gd : Option (List Code)} {cn : Str} {cs : Scope} {a : Addr} {ccd : Value} {cl : List (Str × Addr)} {outer : List Env} {A₀ : Around} {base h₀ : Heap} {L : Addr} {m : Str → Option Value} {s : Shared} {Q E : Value → Shared → Prop}
    {x dx f df q cq : Nat} {y : LexT} {st : Value} {eof : Bool} {z : SioT} {tp : Tok} {l : List Nat} {pos : Nat} {n : Int} {tn : Tok} {pre post : List (Addr × Obj)}
    (B : Below A₀ base outer h₀) (F : Fr h₀ L s.heap m) (X : (hd.heap_39 w.params).In h₀)
    (N : News h₀ L s.heap (pre ++ ([(x, instObj 690 dx), (dx, lexObj w y f q st eof), (f, instObj 569 df), (df, sioObj w z l (pos) tp), (q, listOf #[] cq)] ++ post)))
    (Tp : Top p loose mean mg mb h₀) (hcs : cs.kind = .function) (hdp : dp + 4 < recursionLimit) (hun : un + 60 < cLine)
    (hoff : LxOff [(x, instObj 690 dx), (dx, lexObj w y f q st eof), (f, instObj 569 df), (df, sioObj w z l (pos) tp), (q, listOf #[] cq)] (pre ++ post)) (hside : dx < x ∧ x < df ∧ df < f ∧ f < q ∧ MoreOk y.more ∧ (tx l).length ≤ 1000 ∧ pos ≤ 1000 ∧ 1 ≤ n ∧ n ≤ 1000)
    (hret : ∀ t tp' h' tk', (tx ((l.drop pos).take n.toNat)).length ≤ 1000 → pos + ((l.drop pos).take n.toNat).length ≤ 1000 → Fr h₀ L h' m → News h₀ L h' (pre ++ ([(x, instObj 690 dx), (dx, lexObj w y f q st (eof || ((l.drop pos).take n.toNat).isEmpty)), (f, instObj 569 df), (df, sioObj w z l (pos + ((l.drop pos).take n.toNat).length) tp'), (q, listOf #[] cq)] ++ post)) → Q (.str (tx ((l.drop pos).take n.toNat)) t) { s with heap := h', toks := tk' }) :
    wpAny (model prog w) (ktrTop dp un gd cn cs L a ccd cl outer) (call (.ref 616) [.ref x, .int n tn]) Q E s := by
  obtain ⟨h1, h2, h3, h4, hm, hT, hpos, hside⟩ := hside
  obtain ⟨hn, hn2⟩ := hside
  refine wpAny_call ?_
  k_dflt ktr_enter
  k_steps
  all_goals (intro lift; have LL := (lift _ _ (by assumption) (by assumption)).1; clear lift; try dsimp only)
  · have e := rd_true (by assumption)
    rw [empty_tx]
    simp only [e, List.isEmpty_nil, Bool.or_true] at hret LL ⊢
    exact hret _ _ _ _ (by decide) (by assumption) (by assumption) LL
  · have e := rd_false (by assumption)
    rw [e, Bool.or_false] at hret
    rw [empty_tx]
    exact hret _ _ _ _ (by assumption) (by assumption) (by assumption) LL

theorem lexRead1 {prog : Program} {w : World} {p : Program} {loose : List Str} {mean : ExcName → Option Value} {mg mb : Str → Option Value}
    {dp un : Nat} {gd : Option (List Code)} {cn : Str} {cs : Scope} {a : Addr} {ccd : Value} {cl : List (Str × Addr)} {outer : List Env} {A₀ : Around} {base h₀ : Heap} {L : Addr} {m : Str → Option Value} {s : Shared} {Q E : Value → Shared → Prop}
    {x dx f df q cq : Nat} {y : LexT} {st : Value} {eof : Bool} {z : SioT} {tp : Tok} {l : List Nat} {pos : Nat} {n : Int} {tn : Tok} {c : Nat} {tc : Tok} {pre post : List (Addr × Obj)}
    (B : Below A₀ base outer h₀) (F : Fr h₀ L s.heap m) (X : (hd.heap_39 w.params).In h₀)
    (N : News h₀ L s.heap (pre ++ ([(x, instObj 690 dx), (dx, lexObj w y f q st eof), (f, instObj 569 df), (df, sioObj w z l (pos) tp), (q, listOf #[.str (tx [c]) tc] cq)] ++ post)))
    (Tp : Top p loose mean mg mb h₀) (hcs : cs.kind = .function) (hdp : dp + 4 < recursionLimit) (hun : un + 60 < cLine)
    (hoff : LxOff [(x, instObj 690 dx), (dx, lexObj w y f q st eof), (f, instObj 569 df), (df, sioObj w z l (pos) tp), (q, listOf #[.str (tx [c]) tc] cq)] (pre ++ post)) (hside : dx < x ∧ x < df ∧ df < f ∧ f < q ∧ MoreOk y.more ∧ (tx l).length ≤ 1000 ∧ pos ≤ 1000 ∧ 1 ≤ n ∧ n ≤ 1000)
    (hret : ∀ t tp' h' tk', (tx (c :: ((l.drop pos).take (n - 1).toNat))).length ≤ 1001 → pos + ((l.drop pos).take (n - 1).toNat).length ≤ 1000 → Fr h₀ L h' m → News h₀ L h' (pre ++ ([(x, instObj 690 dx), (dx, lexObj w y f q st eof), (f, instObj 569 df), (df, sioObj w z l (pos + ((l.drop pos).take (n - 1).toNat).length) tp'), (q, listOf #[] (cq + 1))] ++ post)) → Q (.str (tx (c :: ((l.drop pos).take (n - 1).toNat))) t) { s with heap := h', toks := tk' }) :
    wpAny (model prog w) (ktrTop dp un gd cn cs L a ccd cl outer) (call (.ref 616) [.ref x, .int n tn]) Q E s := by
  obtain ⟨h1, h2, h3, h4, hm, hT, hpos, hside⟩ := hside
  obtain ⟨hn, hn2⟩ := hside
  have hlc : (tx [c]).length ≤ 1 := Nat.le_refl 1
  refine wpAny_call ?_
  k_dflt ktr_enter
  k_steps
  all_goals (intro lift; have LL := (lift _ _ (by assumption) (by assumption)).1; clear lift; try dsimp only)
  · exact (rd_never (by assumption)).elim
  · rw [two_tx]
    exact hret _ _ _ _ (two_len (by assumption)) (by assumption) (by assumption) LL
end
section
theorem reset3 : True := by
  w_top off
  trivial
/-! ### the lines (local) -/
local macro_rules | `(tactic| k_in) => `(tactic| first | with_reducible assumption | exact Frag.In.keeps (by with_reducible assumption) (Fr.keep (by with_reducible assumption)) | exact Frag.In.keeps (by with_reducible assumption) (Fr.keep (by k_asm)))
local macro_rules | `(tactic| k_room) => `(tactic| ktr_room)
/- entry into a def whose ledger is a part of the caller's -/
local macro_rules | `(tactic| ktr_enter) => `(tactic| (refine' code_lx ?k1 ?k2 ?k3 ?k4 ?kO ?k5 ?kA ?kF ?kK ?k6 ?k7 ?k8 ?k9 ?kB ?_ ?c2 ?c3 ?c4 ?c5; (case kA => exact rfl); (case kF => exact rfl); (case kK => first | exact rfl | assumption); (case k1 => k_asm); (case k2 => k_asm); (case k3 => k_asm); (case k4 => k_asm); (case kO => assumption); (case k5 => k_asm); (case k6 => k_is); (case k7 => k_is); (case k8 => k_room); (case k9 => first | exact BindsTo.of_eq rfl | exact binds_K (by k_in) rfl (by k_is) rfl rfl rfl | fail "k_enter: no rule for these arguments"); (case c5 => decide); (case kB => exact locs rfl); (case c2 => exact rfl); (case c3 => exact rfl); (case c4 => exact rfl); k_whole; intro g' L' h' FG' F' N' B' X' T' l1; (try k_lt l1); (try dsimp only); (try k_lift B'); (try k_fold)))
/- apartness -/
local macro_rules | `(tactic| ktr_rel) => `(tactic| first | assumption | ((try simp only [List.cons_append, List.nil_append, List.append_nil]); repeat (first | exact LxOff.nil | refine LxOff.cons (by k_all) ?_)))
/- a dict of six written entries and a tail -/
local macro_rules | `(tactic| k_get) => `(tactic| first
  | (refine' get6_hit ?hm ?h; (case hm => assumption); (case h => k_get))
  | (refine' get6_miss ?hm ?n1 ?n2 ?h; (case hm => assumption); (case n1 => decide +kernel); (case n2 => decide +kernel); (case h => k_get))
  | (refine' get6_is ?hm ?h ?h2; (case hm => assumption); (case h => k_get); (case h2 => (intro h9; exact absurd (h9.symm.trans (by k_get)) (by nofun)))))
local macro_rules | `(tactic| k_put) => `(tactic| (refine' put6 ?hm ?h; (case hm => assumption); (case h => k_put)))
local macro_rules | `(tactic| walk_at "setAttr ref") => `(tactic| (k_here; k_dflt ((refine' set_dict ?k1 ?k2 ?k3 ?k4 ?k5 ?k6 ?k7 ?k8 ?k9 ?k10 ?k11 ?k12 ?k13 ?_; (case k1 => k_asm); (case k2 => k_asm); (case k3 => k_asm); (case k4 => k_inst); (case k5 => exact rfl); (case k6 => k_is); (case k7 => k_is); (case k8 => k_is); (case k9 => k_is); (case k10 => k_get); (case k11 => k_put); (case k12 => k_upd); (case k13 => first | exact Nat.le_of_ble_eq_true rfl | (have h9 := MoreOk.len (by assumption); simp only [List.length_cons]; omega)); k_whole; intro h' F' N'; (try k_sweep)))))
local macro_rules | `(tactic| walk_at "call builtin:list.extend") => `(tactic| (k_here; (with_reducible show wpAny _ _ (call (Value.builtin _) [Value.ref _, Value.str _ _]) _ _ _); k_dflt (first
  | (refine' lx_extend0 ?hh ?F ?N ?D ?_; (case hh => exact rfl); (case F => k_asm); (case N => k_asm); (case D => k_mem); intro h' tk' F' N'; (try k_sweep))
  | (refine' lx_extend1 ?hh ?F ?N ?U ?_; (case hh => exact rfl); (case F => k_asm); (case N => k_asm); (case U => k_updF); intro h' tk' u' c' F' N'; (try dsimp only at N'); (try k_sweep)))))
local macro_rules | `(tactic| walk_at "call type:list") => `(tactic| (k_here; (with_reducible show wpAny _ _ (call (Value.type _) [Value.str _ _]) _ _ _); k_dflt (first
  | (refine' lx_list0 ?hh ?F ?N ?_; (case hh => exact rfl); (case F => k_asm); (case N => k_asm); intro p' h' tk' c' F' N' l1; (try k_lt l1); (try k_sweep))
  | (refine' lx_list1 ?hh ?F ?N ?_; (case hh => exact rfl); (case F => k_asm); (case N => k_asm); intro p' h' tk' u' c' F' N' l1; (try k_lt l1); (try k_sweep)))))
local macro_rules | `(tactic| tb_rel) => `(tactic| (refine' cb_drop ?cN ?cS; (case cN => assumption); (case cS => (repeat (first | exact List.forall_mem_nil _ | refine List.forall_mem_cons.mpr ⟨by k_mem, ?_⟩)))))
/- the call of a def by its contract: ktr_call CONTRACT PRE -/
local macro_rules | `(tactic| ktr_unf) => `(tactic| (intros; (with_reducible rename News _ _ _ _ => N9); (try simp only [List.cons_append, List.nil_append] at N9); (try dsimp only); (try k_fold); (try k_sweep)))
local macro_rules | `(tactic| tb_start) => `(tactic| ((repeat' apply And.intro) <;> first | assumption | omega | rfl))
local macro_rules | `(tactic| ktr_call $x:term $c:term) => `(tactic| (refine' $x (pre := $c) ?k1 ?k2 ?k3 ?k4 ?k5 ?kK ?kd ?ku ?kO ?kS ?_; (case k4 => k_asm); (case kS => tb_start); (case k1 => k_asm); (case k2 => k_asm); (case k3 => k_asm); (case k5 => k_asm); (case kK => first | exact rfl | assumption); (case kd => ktr_room); (case ku => ktr_units); (case kO => ktr_rel); ktr_unf))
local macro_rules | `(tactic| walk_at "exec While") => `(tactic| (k_here; k_dflt (refine whl_start 100 ?_)))
local macro_rules | `(tactic| walk_at "exec While BoolOp") => `(tactic| (k_here; k_dflt (refine whl_start 100 ?_)))
local macro_rules | `(tactic| walk_at "call ref") => `(tactic| (k_here; (with_reducible show wpAny _ _ (call (Value.ref 515) [Value.ref _, Value.int _ _] []) _ _ _); k_dflt (first
  | ktr_call sioRead_e [] | ktr_call sioRead_e [_] | ktr_call sioRead_e [_, _] | ktr_call sioRead_e [_, _, _] | ktr_call sioRead_e [_, _, _, _]
  | ktr_call sioRead_c [] | ktr_call sioRead_c [_] | ktr_call sioRead_c [_, _] | ktr_call sioRead_c [_, _, _] | ktr_call sioRead_c [_, _, _, _]
  | ktr_call sioRead_0 [] | ktr_call sioRead_0 [_] | ktr_call sioRead_0 [_, _] | ktr_call sioRead_0 [_, _, _] | ktr_call sioRead_0 [_, _, _, _]
  | ktr_call sioRead [] | ktr_call sioRead [_] | ktr_call sioRead [_, _] | ktr_call sioRead [_, _, _] | ktr_call sioRead [_, _, _, _])))
/-! ### Lexer.read of one sign -/
theorem lexRead0_e {prog : Program} {w : World} {p : Program} {loose : List Str} {mean : ExcName → Option Value} {mg mb : Str → Option Value}
    {dp un : Nat} {gd : Option (List Code)} {cn : Str} {cs : Scope} {a : Addr} {ccd : Value} {cl : List (Str × Addr)} {outer : List Env} {A₀ : Around} {base h₀ : Heap} {L : Addr} {m : Str → Option Value} {s : Shared} {Q E : Value → Shared → Prop}
    {x dx f df q cq : Nat} {y : LexT} {st : Value} {eof : Bool} {z : SioT} {tp : Tok} {l : List Nat} {pos : Nat} {tn : Tok} {pre post : List (Addr × Obj)}
    (B : Below A₀ base outer h₀) (F : Fr h₀ L s.heap m) (X : (hd.heap_39 w.params).In h₀)
    (N : News h₀ L s.heap (pre ++ ([(x, instObj 690 dx), (dx, lexObj w y f q st eof), (f, instObj 569 df), (df, sioObj w z l (pos) tp), (q, listOf #[] cq)] ++ post)))
    (Tp : Top p loose mean mg mb h₀) (hcs : cs.kind = .function) (hdp : dp + 4 < recursionLimit) (hun : un + 60 < cLine)
    (hoff : LxOff [(x, instObj 690 dx), (dx, lexObj w y f q st eof), (f, instObj 569 df), (df, sioObj w z l (pos) tp), (q, listOf #[] cq)] (pre ++ post)) (hside : dx < x ∧ x < df ∧ df < f ∧ f < q ∧ MoreOk y.more ∧ (tx l).length ≤ 1000 ∧ pos ≤ 1000 ∧ l.drop pos = [])
    (hret : ∀ t tp' h' tk', Fr h₀ L h' m → News h₀ L h' (pre ++ ([(x, instObj 690 dx), (dx, lexObj w y f q st true), (f, instObj 569 df), (df, sioObj w z l (pos) tp'), (q, listOf #[] cq)] ++ post)) → Q (.str (tx []) t) { s with heap := h', toks := tk' }) :
    wpAny (model prog w) (ktrTop dp un gd cn cs L a ccd cl outer) (call (.ref 616) [.ref x, .int 1 tn]) Q E s := by
  obtain ⟨h1, h2, h3, h4, hm, hT, hpos, hside⟩ := hside
  refine lexRead0 B F X N Tp hcs hdp hun hoff ⟨h1, h2, h3, h4, hm, hT, hpos, by decide, by decide⟩ ?_
  rw [hside]
  intro t tp' h' tk' _ _ F' N'
  refine hret t tp' h' tk' F' ?_
  simp only [List.take_nil, List.isEmpty_nil, Bool.or_true, List.length_nil, Nat.add_zero] at N'
  exact N'

theorem lexRead0_c {prog : Program} {w : World} {p : Program} {loose : List Str} {mean : ExcName → Option Value} {mg mb : Str → Option Value}
    {dp un : Nat} {gd : Option (List Code)} {cn : Str} {cs : Scope} {a : Addr} {ccd : Value} {cl : List (Str × Addr)} {outer : List Env} {A₀ : Around} {base h₀ : Heap} {L : Addr} {m : Str → Option Value} {s : Shared} {Q E : Value → Shared → Prop}
    {x dx f df q cq : Nat} {y : LexT} {st : Value} {eof : Bool} {z : SioT} {tp : Tok} {l : List Nat} {pos : Nat} {tn : Tok} {c : Nat} {r : List Nat} {pre post : List (Addr × Obj)}
    (B : Below A₀ base outer h₀) (F : Fr h₀ L s.heap m) (X : (hd.heap_39 w.params).In h₀)
    (N : News h₀ L s.heap (pre ++ ([(x, instObj 690 dx), (dx, lexObj w y f q st eof), (f, instObj 569 df), (df, sioObj w z l (pos) tp), (q, listOf #[] cq)] ++ post)))
    (Tp : Top p loose mean mg mb h₀) (hcs : cs.kind = .function) (hdp : dp + 4 < recursionLimit) (hun : un + 60 < cLine)
    (hoff : LxOff [(x, instObj 690 dx), (dx, lexObj w y f q st eof), (f, instObj 569 df), (df, sioObj w z l (pos) tp), (q, listOf #[] cq)] (pre ++ post)) (hside : dx < x ∧ x < df ∧ df < f ∧ f < q ∧ MoreOk y.more ∧ (tx l).length ≤ 1000 ∧ pos ≤ 1000 ∧ l.drop pos = c :: r)
    (hret : ∀ t tp' h' tk', (tx [c]).length ≤ 1 → pos + 1 ≤ 1000 → Fr h₀ L h' m → News h₀ L h' (pre ++ ([(x, instObj 690 dx), (dx, lexObj w y f q st eof), (f, instObj 569 df), (df, sioObj w z l (pos + 1) tp'), (q, listOf #[] cq)] ++ post)) → Q (.str (tx [c]) t) { s with heap := h', toks := tk' }) :
    wpAny (model prog w) (ktrTop dp un gd cn cs L a ccd cl outer) (call (.ref 616) [.ref x, .int 1 tn]) Q E s := by
  obtain ⟨h1, h2, h3, h4, hm, hT, hpos, hside⟩ := hside
  refine lexRead0 B F X N Tp hcs hdp hun hoff ⟨h1, h2, h3, h4, hm, hT, hpos, by decide, by decide⟩ ?_
  rw [hside]
  intro t tp' h' tk' _ h2 F' N'
  refine hret t tp' h' tk' (Nat.le_refl 1) h2 F' ?_
  have e : (eof || (List.take (Int.toNat 1) (c :: r)).isEmpty) = eof := by show (eof || false) = eof; rw [Bool.or_false]
  rw [e] at N'
  exact N'

theorem lexRead1_1 {prog : Program} {w : World} {p : Program} {loose : List Str} {mean : ExcName → Option Value} {mg mb : Str → Option Value}
    {dp un : Nat} {gd : Option (List Code)} {cn : Str} {cs : Scope} {a : Addr} {ccd : Value} {cl : List (Str × Addr)} {outer : List Env} {A₀ : Around} {base h₀ : Heap} {L : Addr} {m : Str → Option Value} {s : Shared} {Q E : Value → Shared → Prop}
    {x dx f df q cq : Nat} {y : LexT} {st : Value} {eof : Bool} {z : SioT} {tp : Tok} {l : List Nat} {pos : Nat} {tn : Tok} {c : Nat} {tc : Tok} {pre post : List (Addr × Obj)}
    (B : Below A₀ base outer h₀) (F : Fr h₀ L s.heap m) (X : (hd.heap_39 w.params).In h₀)
    (N : News h₀ L s.heap (pre ++ ([(x, instObj 690 dx), (dx, lexObj w y f q st eof), (f, instObj 569 df), (df, sioObj w z l (pos) tp), (q, listOf #[.str (tx [c]) tc] cq)] ++ post)))
    (Tp : Top p loose mean mg mb h₀) (hcs : cs.kind = .function) (hdp : dp + 4 < recursionLimit) (hun : un + 60 < cLine)
    (hoff : LxOff [(x, instObj 690 dx), (dx, lexObj w y f q st eof), (f, instObj 569 df), (df, sioObj w z l (pos) tp), (q, listOf #[.str (tx [c]) tc] cq)] (pre ++ post)) (hside : dx < x ∧ x < df ∧ df < f ∧ f < q ∧ MoreOk y.more ∧ (tx l).length ≤ 1000 ∧ pos ≤ 1000)
    (hret : ∀ t tp' h' tk', (tx [c]).length ≤ 1 → Fr h₀ L h' m → News h₀ L h' (pre ++ ([(x, instObj 690 dx), (dx, lexObj w y f q st eof), (f, instObj 569 df), (df, sioObj w z l (pos) tp'), (q, listOf #[] (cq + 1))] ++ post)) → Q (.str (tx [c]) t) { s with heap := h', toks := tk' }) :
    wpAny (model prog w) (ktrTop dp un gd cn cs L a ccd cl outer) (call (.ref 616) [.ref x, .int 1 tn]) Q E s := by
  obtain ⟨h1, h2, h3, h4, hm, hT, hpos⟩ := hside
  refine lexRead1 B F X N Tp hcs hdp hun hoff ⟨h1, h2, h3, h4, hm, hT, hpos, by decide, by decide⟩ ?_
  intro t tp' h' tk' _ h2 F' N'
  exact hret t tp' h' tk' (Nat.le_refl 1) F' N'
end
section
theorem reset4 : True := by
  w_top off
  trivial
/-! ### the lines (local) -/
local macro_rules | `(tactic| k_in) => `(tactic| first | with_reducible assumption | exact Frag.In.keeps (by with_reducible assumption) (Fr.keep (by with_reducible assumption)) | exact Frag.In.keeps (by with_reducible assumption) (Fr.keep (by k_asm)))
local macro_rules | `(tactic| k_room) => `(tactic| ktr_room)
/- entry into a def whose ledger is a part of the caller's -/
local macro_rules | `(tactic| ktr_enter) => `(tactic| (refine' code_lx ?k1 ?k2 ?k3 ?k4 ?kO ?k5 ?kA ?kF ?kK ?k6 ?k7 ?k8 ?k9 ?kB ?_ ?c2 ?c3 ?c4 ?c5; (case kA => exact rfl); (case kF => exact rfl); (case kK => first | exact rfl | assumption); (case k1 => k_asm); (case k2 => k_asm); (case k3 => k_asm); (case k4 => k_asm); (case kO => assumption); (case k5 => k_asm); (case k6 => k_is); (case k7 => k_is); (case k8 => k_room); (case k9 => first | exact BindsTo.of_eq rfl | exact binds_K (by k_in) rfl (by k_is) rfl rfl rfl | fail "k_enter: no rule for these arguments"); (case c5 => decide); (case kB => exact locs rfl); (case c2 => exact rfl); (case c3 => exact rfl); (case c4 => exact rfl); k_whole; intro g' L' h' FG' F' N' B' X' T' l1; (try k_lt l1); (try dsimp only); (try k_lift B'); (try k_fold)))
/- apartness -/
local macro_rules | `(tactic| ktr_rel) => `(tactic| first | assumption | ((try simp only [List.cons_append, List.nil_append, List.append_nil]); repeat (first | exact LxOff.nil | refine LxOff.cons (by k_all) ?_)))
/- a dict of six written entries and a tail -/
local macro_rules | `(tactic| k_get) => `(tactic| first
  | (refine' get6_hit ?hm ?h; (case hm => assumption); (case h => k_get))
  | (refine' get6_miss ?hm ?n1 ?n2 ?h; (case hm => assumption); (case n1 => decide +kernel); (case n2 => decide +kernel); (case h => k_get))
  | (refine' get6_is ?hm ?h ?h2; (case hm => assumption); (case h => k_get); (case h2 => (intro h9; exact absurd (h9.symm.trans (by k_get)) (by nofun)))))
local macro_rules | `(tactic| k_put) => `(tactic| (refine' put6 ?hm ?h; (case hm => assumption); (case h => k_put)))
local macro_rules | `(tactic| walk_at "setAttr ref") => `(tactic| (k_here; k_dflt ((refine' set_dict ?k1 ?k2 ?k3 ?k4 ?k5 ?k6 ?k7 ?k8 ?k9 ?k10 ?k11 ?k12 ?k13 ?_; (case k1 => k_asm); (case k2 => k_asm); (case k3 => k_asm); (case k4 => k_inst); (case k5 => exact rfl); (case k6 => k_is); (case k7 => k_is); (case k8 => k_is); (case k9 => k_is); (case k10 => k_get); (case k11 => k_put); (case k12 => k_upd); (case k13 => first | exact Nat.le_of_ble_eq_true rfl | (have h9 := MoreOk.len (by assumption); simp only [List.length_cons]; omega)); k_whole; intro h' F' N'; (try k_sweep)))))
local macro_rules | `(tactic| walk_at "call builtin:list.extend") => `(tactic| (k_here; (with_reducible show wpAny _ _ (call (Value.builtin _) [Value.ref _, Value.str _ _]) _ _ _); k_dflt (first
  | (refine' lx_extend0 ?hh ?F ?N ?D ?_; (case hh => exact rfl); (case F => k_asm); (case N => k_asm); (case D => k_mem); intro h' tk' F' N'; (try k_sweep))
  | (refine' lx_extend1 ?hh ?F ?N ?U ?_; (case hh => exact rfl); (case F => k_asm); (case N => k_asm); (case U => k_updF); intro h' tk' u' c' F' N'; (try dsimp only at N'); (try k_sweep)))))
local macro_rules | `(tactic| walk_at "call type:list") => `(tactic| (k_here; (with_reducible show wpAny _ _ (call (Value.type _) [Value.str _ _]) _ _ _); k_dflt (first
  | (refine' lx_list0 ?hh ?F ?N ?_; (case hh => exact rfl); (case F => k_asm); (case N => k_asm); intro p' h' tk' c' F' N' l1; (try k_lt l1); (try k_sweep))
  | (refine' lx_list1 ?hh ?F ?N ?_; (case hh => exact rfl); (case F => k_asm); (case N => k_asm); intro p' h' tk' u' c' F' N' l1; (try k_lt l1); (try k_sweep)))))
local macro_rules | `(tactic| tb_rel) => `(tactic| (refine' cb_drop ?cN ?cS; (case cN => assumption); (case cS => (repeat (first | exact List.forall_mem_nil _ | refine List.forall_mem_cons.mpr ⟨by k_mem, ?_⟩)))))
/- the call of a def by its contract: ktr_call CONTRACT PRE -/
local macro_rules | `(tactic| ktr_unf) => `(tactic| (intros; (with_reducible rename News _ _ _ _ => N9); (try simp only [List.cons_append, List.nil_append] at N9); (try dsimp only); (try k_fold); (try k_sweep)))
local macro_rules | `(tactic| tb_start) => `(tactic| ((repeat' apply And.intro) <;> first | assumption | omega | rfl))
local macro_rules | `(tactic| ktr_call $x:term $c:term) => `(tactic| (refine' $x (pre := $c) ?k1 ?k2 ?k3 ?k4 ?k5 ?kK ?kd ?ku ?kO ?kS ?_; (case k4 => k_asm); (case kS => tb_start); (case k1 => k_asm); (case k2 => k_asm); (case k3 => k_asm); (case k5 => k_asm); (case kK => first | exact rfl | assumption); (case kd => ktr_room); (case ku => ktr_units); (case kO => ktr_rel); ktr_unf))
local macro_rules | `(tactic| walk_at "exec While") => `(tactic| (k_here; k_dflt (refine whl_start 100 ?_)))
local macro_rules | `(tactic| walk_at "exec While BoolOp") => `(tactic| (k_here; k_dflt (refine whl_start 100 ?_)))
local macro_rules | `(tactic| walk_at "call ref") => `(tactic| (k_here; (with_reducible show wpAny _ _ (call (Value.ref 515) [Value.ref _, Value.int _ _] []) _ _ _); k_dflt (first
  | ktr_call sioRead_e [] | ktr_call sioRead_e [_] | ktr_call sioRead_e [_, _] | ktr_call sioRead_e [_, _, _] | ktr_call sioRead_e [_, _, _, _]
  | ktr_call sioRead_c [] | ktr_call sioRead_c [_] | ktr_call sioRead_c [_, _] | ktr_call sioRead_c [_, _, _] | ktr_call sioRead_c [_, _, _, _]
  | ktr_call sioRead_0 [] | ktr_call sioRead_0 [_] | ktr_call sioRead_0 [_, _] | ktr_call sioRead_0 [_, _, _] | ktr_call sioRead_0 [_, _, _, _]
  | ktr_call sioRead [] | ktr_call sioRead [_] | ktr_call sioRead [_, _] | ktr_call sioRead [_, _, _] | ktr_call sioRead [_, _, _, _])))
/-! ### Lexer.peek -/
theorem lexPeek_e {prog : Program} {w : World} {p : Program} {loose : List Str} {mean : ExcName → Option Value} {mg mb : Str → Option Value}
    {dp un : Nat} {gd : Option (List Code)} {cn : Str} {cs : Scope} {a : Addr} {ccd : Value} {cl : List (Str × Addr)} {outer : List Env} {A₀ : Around} {base h₀ : Heap} {L : Addr} {m : Str → Option Value} {s : Shared} {Q E : Value → Shared → Prop}
    {x dx f df q cq : Nat} {y : LexT} {st : Value} {eof : Bool} {z : SioT} {tp : Tok} {l : List Nat} {pos : Nat} {tn : Tok} {pre post : List (Addr × Obj)}
    (B : Below A₀ base outer h₀) (F : Fr h₀ L s.heap m) (X : (hd.heap_39 w.params).In h₀)
    (N : News h₀ L s.heap (pre ++ ([(x, instObj 690 dx), (dx, lexObj w y f q st eof), (f, instObj 569 df), (df, sioObj w z l (pos) tp), (q, listOf #[] cq)] ++ post)))
    (Tp : Top p loose mean mg mb h₀) (hcs : cs.kind = .function) (hdp : dp + 4 < recursionLimit) (hun : un + 60 < cLine)
    (hoff : LxOff [(x, instObj 690 dx), (dx, lexObj w y f q st eof), (f, instObj 569 df), (df, sioObj w z l (pos) tp), (q, listOf #[] cq)] (pre ++ post)) (hside : dx < x ∧ x < df ∧ df < f ∧ f < q ∧ MoreOk y.more ∧ (tx l).length ≤ 1000 ∧ pos ≤ 1000 ∧ l.drop pos = [])
    (hret : ∀ t tp' cq' h' tk', Fr h₀ L h' m → News h₀ L h' (pre ++ ([(x, instObj 690 dx), (dx, lexObj w y f q st true), (f, instObj 569 df), (df, sioObj w z l (pos) tp'), (q, listOf #[] cq')] ++ post)) → Q (.str (tx []) t) { s with heap := h', toks := tk' }) :
    wpAny (model prog w) (ktrTop dp un gd cn cs L a ccd cl outer) (call (.ref 624) [.ref x, .int 1 tn]) Q E s := by
  obtain ⟨h1, h2, h3, h4, hm, hT, hpos, hside⟩ := hside
  refine wpAny_call ?_
  k_dflt ktr_enter
  k_steps
  all_goals (intro lift; have LL := (lift _ _ (by assumption) (by assumption)).1; clear lift; try dsimp only)
  rw [empty_tx]
  exact hret _ _ _ _ _ (by assumption) LL

theorem lexPeek_c {prog : Program} {w : World} {p : Program} {loose : List Str} {mean : ExcName → Option Value} {mg mb : Str → Option Value}
    {dp un : Nat} {gd : Option (List Code)} {cn : Str} {cs : Scope} {a : Addr} {ccd : Value} {cl : List (Str × Addr)} {outer : List Env} {A₀ : Around} {base h₀ : Heap} {L : Addr} {m : Str → Option Value} {s : Shared} {Q E : Value → Shared → Prop}
    {x dx f df q cq : Nat} {y : LexT} {st : Value} {eof : Bool} {z : SioT} {tp : Tok} {l : List Nat} {pos : Nat} {tn : Tok} {c : Nat} {r : List Nat} {pre post : List (Addr × Obj)}
    (B : Below A₀ base outer h₀) (F : Fr h₀ L s.heap m) (X : (hd.heap_39 w.params).In h₀)
    (N : News h₀ L s.heap (pre ++ ([(x, instObj 690 dx), (dx, lexObj w y f q st eof), (f, instObj 569 df), (df, sioObj w z l (pos) tp), (q, listOf #[] cq)] ++ post)))
    (Tp : Top p loose mean mg mb h₀) (hcs : cs.kind = .function) (hdp : dp + 4 < recursionLimit) (hun : un + 60 < cLine)
    (hoff : LxOff [(x, instObj 690 dx), (dx, lexObj w y f q st eof), (f, instObj 569 df), (df, sioObj w z l (pos) tp), (q, listOf #[] cq)] (pre ++ post)) (hside : dx < x ∧ x < df ∧ df < f ∧ f < q ∧ MoreOk y.more ∧ (tx l).length ≤ 1000 ∧ pos ≤ 1000 ∧ l.drop pos = c :: r)
    (hret : ∀ t tp' tc cq' h' tk', (tx [c]).length ≤ 1 → pos + 1 ≤ 1000 → Fr h₀ L h' m → News h₀ L h' (pre ++ ([(x, instObj 690 dx), (dx, lexObj w y f q st eof), (f, instObj 569 df), (df, sioObj w z l (pos + 1) tp'), (q, listOf #[.str (tx [c]) tc] cq')] ++ post)) → Q (.str (tx [c]) t) { s with heap := h', toks := tk' }) :
    wpAny (model prog w) (ktrTop dp un gd cn cs L a ccd cl outer) (call (.ref 624) [.ref x, .int 1 tn]) Q E s := by
  obtain ⟨h1, h2, h3, h4, hm, hT, hpos, hside⟩ := hside
  refine wpAny_call ?_
  k_dflt ktr_enter
  k_steps
  all_goals (intro lift; have LL := (lift _ _ (by assumption) (by assumption)).1; clear lift; try dsimp only)
  · exact no_false (by assumption)
  · rw [empty_tx]
    exact hret _ _ _ _ _ _ (by assumption) (by assumption) (by assumption) LL

theorem lexPeek_1 {prog : Program} {w : World} {p : Program} {loose : List Str} {mean : ExcName → Option Value} {mg mb : Str → Option Value}
    {dp un : Nat} {gd : Option (List Code)} {cn : Str} {cs : Scope} {a : Addr} {ccd : Value} {cl : List (Str × Addr)} {outer : List Env} {A₀ : Around} {base h₀ : Heap} {L : Addr} {m : Str → Option Value} {s : Shared} {Q E : Value → Shared → Prop}
    {x dx f df q cq : Nat} {y : LexT} {st : Value} {eof : Bool} {z : SioT} {tp : Tok} {l : List Nat} {pos : Nat} {tn : Tok} {c : Nat} {tc : Tok} {pre post : List (Addr × Obj)}
    (B : Below A₀ base outer h₀) (F : Fr h₀ L s.heap m) (X : (hd.heap_39 w.params).In h₀)
    (N : News h₀ L s.heap (pre ++ ([(x, instObj 690 dx), (dx, lexObj w y f q st eof), (f, instObj 569 df), (df, sioObj w z l (pos) tp), (q, listOf #[.str (tx [c]) tc] cq)] ++ post)))
    (Tp : Top p loose mean mg mb h₀) (hcs : cs.kind = .function) (hdp : dp + 4 < recursionLimit) (hun : un + 60 < cLine)
    (hoff : LxOff [(x, instObj 690 dx), (dx, lexObj w y f q st eof), (f, instObj 569 df), (df, sioObj w z l (pos) tp), (q, listOf #[.str (tx [c]) tc] cq)] (pre ++ post)) (hside : dx < x ∧ x < df ∧ df < f ∧ f < q ∧ MoreOk y.more ∧ (tx l).length ≤ 1000 ∧ pos ≤ 1000)
    (hret : ∀ t tp' cq' h' tk', (tx [c]).length ≤ 1 → Fr h₀ L h' m → News h₀ L h' (pre ++ ([(x, instObj 690 dx), (dx, lexObj w y f q st eof), (f, instObj 569 df), (df, sioObj w z l (pos) tp'), (q, listOf #[.str (tx [c]) tc] cq')] ++ post)) → Q (.str (tx [c]) t) { s with heap := h', toks := tk' }) :
    wpAny (model prog w) (ktrTop dp un gd cn cs L a ccd cl outer) (call (.ref 624) [.ref x, .int 1 tn]) Q E s := by
  obtain ⟨h1, h2, h3, h4, hm, hT, hpos⟩ := hside
  have hlc : (tx [c]).length ≤ 1 := Nat.le_refl 1
  refine wpAny_call ?_
  k_dflt ktr_enter
  k_steps
  all_goals (intro lift; have LL := (lift _ _ (by assumption) (by assumption)).1; clear lift; try dsimp only)
  rw [two_tx]
  exact hret _ _ _ _ _ (by assumption) (by assumption) LL
end
section
theorem reset5 : True := by
  w_top off
  trivial
/-! ### the lines (local) -/
local macro_rules | `(tactic| k_in) => `(tactic| first | with_reducible assumption | exact Frag.In.keeps (by with_reducible assumption) (Fr.keep (by with_reducible assumption)) | exact Frag.In.keeps (by with_reducible assumption) (Fr.keep (by k_asm)))
local macro_rules | `(tactic| k_room) => `(tactic| ktr_room)
/- entry into a def whose ledger is a part of the caller's -/
local macro_rules | `(tactic| ktr_enter) => `(tactic| (refine' code_lx ?k1 ?k2 ?k3 ?k4 ?kO ?k5 ?kA ?kF ?kK ?k6 ?k7 ?k8 ?k9 ?kB ?_ ?c2 ?c3 ?c4 ?c5; (case kA => exact rfl); (case kF => exact rfl); (case kK => first | exact rfl | assumption); (case k1 => k_asm); (case k2 => k_asm); (case k3 => k_asm); (case k4 => k_asm); (case kO => assumption); (case k5 => k_asm); (case k6 => k_is); (case k7 => k_is); (case k8 => k_room); (case k9 => first | exact BindsTo.of_eq rfl | exact binds_K (by k_in) rfl (by k_is) rfl rfl rfl | fail "k_enter: no rule for these arguments"); (case c5 => decide); (case kB => exact locs rfl); (case c2 => exact rfl); (case c3 => exact rfl); (case c4 => exact rfl); k_whole; intro g' L' h' FG' F' N' B' X' T' l1; (try k_lt l1); (try dsimp only); (try k_lift B'); (try k_fold)))
/- apartness -/
local macro_rules | `(tactic| ktr_rel) => `(tactic| first | assumption | ((try simp only [List.cons_append, List.nil_append, List.append_nil]); repeat (first | exact LxOff.nil | refine LxOff.cons (by k_all) ?_)))
/- a dict of six written entries and a tail -/
local macro_rules | `(tactic| k_get) => `(tactic| first
  | (refine' get6_hit ?hm ?h; (case hm => assumption); (case h => k_get))
  | (refine' get6_miss ?hm ?n1 ?n2 ?h; (case hm => assumption); (case n1 => decide +kernel); (case n2 => decide +kernel); (case h => k_get))
  | (refine' get6_is ?hm ?h ?h2; (case hm => assumption); (case h => k_get); (case h2 => (intro h9; exact absurd (h9.symm.trans (by k_get)) (by nofun)))))
local macro_rules | `(tactic| k_put) => `(tactic| (refine' put6 ?hm ?h; (case hm => assumption); (case h => k_put)))
local macro_rules | `(tactic| walk_at "setAttr ref") => `(tactic| (k_here; k_dflt ((refine' set_dict ?k1 ?k2 ?k3 ?k4 ?k5 ?k6 ?k7 ?k8 ?k9 ?k10 ?k11 ?k12 ?k13 ?_; (case k1 => k_asm); (case k2 => k_asm); (case k3 => k_asm); (case k4 => k_inst); (case k5 => exact rfl); (case k6 => k_is); (case k7 => k_is); (case k8 => k_is); (case k9 => k_is); (case k10 => k_get); (case k11 => k_put); (case k12 => k_upd); (case k13 => first | exact Nat.le_of_ble_eq_true rfl | (have h9 := MoreOk.len (by assumption); simp only [List.length_cons]; omega)); k_whole; intro h' F' N'; (try k_sweep)))))
local macro_rules | `(tactic| walk_at "call builtin:list.extend") => `(tactic| (k_here; (with_reducible show wpAny _ _ (call (Value.builtin _) [Value.ref _, Value.str _ _]) _ _ _); k_dflt (first
  | (refine' lx_extend0 ?hh ?F ?N ?D ?_; (case hh => exact rfl); (case F => k_asm); (case N => k_asm); (case D => k_mem); intro h' tk' F' N'; (try k_sweep))
  | (refine' lx_extend1 ?hh ?F ?N ?U ?_; (case hh => exact rfl); (case F => k_asm); (case N => k_asm); (case U => k_updF); intro h' tk' u' c' F' N'; (try dsimp only at N'); (try k_sweep)))))
local macro_rules | `(tactic| walk_at "call type:list") => `(tactic| (k_here; (with_reducible show wpAny _ _ (call (Value.type _) [Value.str _ _]) _ _ _); k_dflt (first
  | (refine' lx_list0 ?hh ?F ?N ?_; (case hh => exact rfl); (case F => k_asm); (case N => k_asm); intro p' h' tk' c' F' N' l1; (try k_lt l1); (try k_sweep))
  | (refine' lx_list1 ?hh ?F ?N ?_; (case hh => exact rfl); (case F => k_asm); (case N => k_asm); intro p' h' tk' u' c' F' N' l1; (try k_lt l1); (try k_sweep)))))
local macro_rules | `(tactic| tb_rel) => `(tactic| (refine' cb_drop ?cN ?cS; (case cN => assumption); (case cS => (repeat (first | exact List.forall_mem_nil _ | refine List.forall_mem_cons.mpr ⟨by k_mem, ?_⟩)))))
/- the call of a def by its contract: ktr_call CONTRACT PRE -/
local macro_rules | `(tactic| ktr_unf) => `(tactic| (intros; (with_reducible rename News _ _ _ _ => N9); (try simp only [List.cons_append, List.nil_append] at N9); (try dsimp only); (try k_fold); (try k_sweep)))
local macro_rules | `(tactic| tb_start) => `(tactic| ((repeat' apply And.intro) <;> first | assumption | omega | rfl))
local macro_rules | `(tactic| ktr_call $x:term $c:term) => `(tactic| (refine' $x (pre := $c) ?k1 ?k2 ?k3 ?k4 ?k5 ?kK ?kd ?ku ?kO ?kS ?_; (case k4 => k_asm); (case kS => tb_start); (case k1 => k_asm); (case k2 => k_asm); (case k3 => k_asm); (case k5 => k_asm); (case kK => first | exact rfl | assumption); (case kd => ktr_room); (case ku => ktr_units); (case kO => ktr_rel); ktr_unf))
local macro_rules | `(tactic| walk_at "exec While") => `(tactic| (k_here; k_dflt (refine whl_start 100 ?_)))
local macro_rules | `(tactic| walk_at "exec While BoolOp") => `(tactic| (k_here; k_dflt (refine whl_start 100 ?_)))
local macro_rules | `(tactic| walk_at "call ref") => `(tactic| (k_here; (with_reducible show wpAny _ _ (call (Value.ref 515) [Value.ref _, Value.int _ _] []) _ _ _); k_dflt (first
  | ktr_call sioRead_e [] | ktr_call sioRead_e [_] | ktr_call sioRead_e [_, _] | ktr_call sioRead_e [_, _, _] | ktr_call sioRead_e [_, _, _, _]
  | ktr_call sioRead_c [] | ktr_call sioRead_c [_] | ktr_call sioRead_c [_, _] | ktr_call sioRead_c [_, _, _] | ktr_call sioRead_c [_, _, _, _]
  | ktr_call sioRead_0 [] | ktr_call sioRead_0 [_] | ktr_call sioRead_0 [_, _] | ktr_call sioRead_0 [_, _, _] | ktr_call sioRead_0 [_, _, _, _]
  | ktr_call sioRead [] | ktr_call sioRead [_] | ktr_call sioRead [_, _] | ktr_call sioRead [_, _, _] | ktr_call sioRead [_, _, _, _])))
/-! ### Lexer.pushback -/
theorem lexPush_0 {prog : Program} {w : World} {p : Program} {loose : List Str} {mean : ExcName → Option Value} {mg mb : Str → Option Value}
    {dp un : Nat} {gd : Option (List Code)} {cn : Str} {cs : Scope} {a : Addr} {ccd : Value} {cl : List (Str × Addr)} {outer : List Env} {A₀ : Around} {base h₀ : Heap} {L : Addr} {m : Str → Option Value} {s : Shared} {Q E : Value → Shared → Prop}
    {x dx f df q cq : Nat} {y : LexT} {st : Value} {eof : Bool} {z : SioT} {tp : Tok} {l : List Nat} {pos : Nat} {tn : Tok} {pre post : List (Addr × Obj)}
    (B : Below A₀ base outer h₀) (F : Fr h₀ L s.heap m) (X : (hd.heap_39 w.params).In h₀)
    (N : News h₀ L s.heap (pre ++ ([(x, instObj 690 dx), (dx, lexObj w y f q st eof), (f, instObj 569 df), (df, sioObj w z l (pos) tp), (q, listOf #[] cq)] ++ post)))
    (Tp : Top p loose mean mg mb h₀) (hcs : cs.kind = .function) (hdp : dp + 4 < recursionLimit) (hun : un + 60 < cLine)
    (hoff : LxOff [(x, instObj 690 dx), (dx, lexObj w y f q st eof), (f, instObj 569 df), (df, sioObj w z l (pos) tp), (q, listOf #[] cq)] (pre ++ post)) (hside : dx < x ∧ x < df ∧ df < f ∧ f < q ∧ MoreOk y.more ∧ (tx l).length ≤ 1000 ∧ pos ≤ 1000)
    (hret : ∀ (q' : Nat) cq' h' tk', f < q' → AllNe q' (pre ++ post) → Fr h₀ L h' m → News h₀ L h' (pre ++ ([(x, instObj 690 dx), (dx, lexObj w y f q' st eof), (f, instObj 569 df), (df, sioObj w z l (pos) tp), (q', listOf #[] cq')] ++ post)) → Q .none { s with heap := h', toks := tk' }) :
    wpAny (model prog w) (ktrTop dp un gd cn cs L a ccd cl outer) (call (.ref 631) [.ref x, .str (tx []) tn]) Q E s := by
  obtain ⟨h1, h2, h3, h4, hm, hT, hpos⟩ := hside
  refine wpAny_call ?_
  k_dflt ktr_enter
  k_steps
  (intro lift; try dsimp only)
  refine' lx_use (lift [(x, instObj 690 dx), (dx, lexObj w y f _ st eof), (f, instObj 569 df), (df, sioObj w z l (pos) tp), (_, listOf #[] _)] _ ?n1 ?n2) ?mm
  case n1 => tb_rel
  case n2 => tb_rel
  case mm =>
    intro LL
    exact hret _ _ _ _ (by omega) (LL.2.last (by k_mem)) (by assumption) LL.1

theorem lexPush_1 {prog : Program} {w : World} {p : Program} {loose : List Str} {mean : ExcName → Option Value} {mg mb : Str → Option Value}
    {dp un : Nat} {gd : Option (List Code)} {cn : Str} {cs : Scope} {a : Addr} {ccd : Value} {cl : List (Str × Addr)} {outer : List Env} {A₀ : Around} {base h₀ : Heap} {L : Addr} {m : Str → Option Value} {s : Shared} {Q E : Value → Shared → Prop}
    {x dx f df q cq : Nat} {y : LexT} {st : Value} {eof : Bool} {z : SioT} {tp : Tok} {l : List Nat} {pos : Nat} {tn : Tok} {c : Nat} {pre post : List (Addr × Obj)}
    (B : Below A₀ base outer h₀) (F : Fr h₀ L s.heap m) (X : (hd.heap_39 w.params).In h₀)
    (N : News h₀ L s.heap (pre ++ ([(x, instObj 690 dx), (dx, lexObj w y f q st eof), (f, instObj 569 df), (df, sioObj w z l (pos) tp), (q, listOf #[] cq)] ++ post)))
    (Tp : Top p loose mean mg mb h₀) (hcs : cs.kind = .function) (hdp : dp + 4 < recursionLimit) (hun : un + 60 < cLine)
    (hoff : LxOff [(x, instObj 690 dx), (dx, lexObj w y f q st eof), (f, instObj 569 df), (df, sioObj w z l (pos) tp), (q, listOf #[] cq)] (pre ++ post)) (hside : dx < x ∧ x < df ∧ df < f ∧ f < q ∧ MoreOk y.more ∧ (tx l).length ≤ 1000 ∧ pos ≤ 1000)
    (hret : ∀ (q' : Nat) cq' tc h' tk', f < q' → AllNe q' (pre ++ post) → Fr h₀ L h' m → News h₀ L h' (pre ++ ([(x, instObj 690 dx), (dx, lexObj w y f q' st eof), (f, instObj 569 df), (df, sioObj w z l (pos) tp), (q', listOf #[.str (tx [c]) tc] cq')] ++ post)) → Q .none { s with heap := h', toks := tk' }) :
    wpAny (model prog w) (ktrTop dp un gd cn cs L a ccd cl outer) (call (.ref 631) [.ref x, .str (tx [c]) tn]) Q E s := by
  obtain ⟨h1, h2, h3, h4, hm, hT, hpos⟩ := hside
  refine wpAny_call ?_
  k_dflt ktr_enter
  k_steps
  (intro lift; try dsimp only)
  refine' lx_use (lift [(x, instObj 690 dx), (dx, lexObj w y f _ st eof), (f, instObj 569 df), (df, sioObj w z l (pos) tp), (_, listOf #[.str (tx [c]) _] _)] _ ?n1 ?n2) ?mm
  case n1 => tb_rel
  case n2 => tb_rel
  case mm =>
    intro LL
    exact hret _ _ _ _ _ (by omega) (LL.2.last (by k_mem)) (by assumption) LL.1
end
section
theorem reset6 : True := by
  w_top off
  trivial
/-! ### the lines (local) -/
local macro_rules | `(tactic| k_in) => `(tactic| first | with_reducible assumption | exact Frag.In.keeps (by with_reducible assumption) (Fr.keep (by with_reducible assumption)) | exact Frag.In.keeps (by with_reducible assumption) (Fr.keep (by k_asm)))
local macro_rules | `(tactic| k_room) => `(tactic| ktr_room)
/- entry into a def whose ledger is a part of the caller's -/
local macro_rules | `(tactic| ktr_enter) => `(tactic| (refine' code_lx ?k1 ?k2 ?k3 ?k4 ?kO ?k5 ?kA ?kF ?kK ?k6 ?k7 ?k8 ?k9 ?kB ?_ ?c2 ?c3 ?c4 ?c5; (case kA => exact rfl); (case kF => exact rfl); (case kK => first | exact rfl | assumption); (case k1 => k_asm); (case k2 => k_asm); (case k3 => k_asm); (case k4 => k_asm); (case kO => assumption); (case k5 => k_asm); (case k6 => k_is); (case k7 => k_is); (case k8 => k_room); (case k9 => first | exact BindsTo.of_eq rfl | exact binds_K (by k_in) rfl (by k_is) rfl rfl rfl | fail "k_enter: no rule for these arguments"); (case c5 => decide); (case kB => exact locs rfl); (case c2 => exact rfl); (case c3 => exact rfl); (case c4 => exact rfl); k_whole; intro g' L' h' FG' F' N' B' X' T' l1; (try k_lt l1); (try dsimp only); (try k_lift B'); (try k_fold)))
/- apartness -/
local macro_rules | `(tactic| ktr_rel) => `(tactic| first | assumption | ((try simp only [List.cons_append, List.nil_append, List.append_nil]); repeat (first | exact LxOff.nil | refine LxOff.cons (by k_all) ?_)))
/- a dict of six written entries and a tail -/
local macro_rules | `(tactic| k_get) => `(tactic| first
  | (refine' get6_hit ?hm ?h; (case hm => assumption); (case h => k_get))
  | (refine' get6_miss ?hm ?n1 ?n2 ?h; (case hm => assumption); (case n1 => decide +kernel); (case n2 => decide +kernel); (case h => k_get))
  | (refine' get6_is ?hm ?h ?h2; (case hm => assumption); (case h => k_get); (case h2 => (intro h9; exact absurd (h9.symm.trans (by k_get)) (by nofun)))))
local macro_rules | `(tactic| k_put) => `(tactic| (refine' put6 ?hm ?h; (case hm => assumption); (case h => k_put)))
local macro_rules | `(tactic| walk_at "setAttr ref") => `(tactic| (k_here; k_dflt ((refine' set_dict ?k1 ?k2 ?k3 ?k4 ?k5 ?k6 ?k7 ?k8 ?k9 ?k10 ?k11 ?k12 ?k13 ?_; (case k1 => k_asm); (case k2 => k_asm); (case k3 => k_asm); (case k4 => k_inst); (case k5 => exact rfl); (case k6 => k_is); (case k7 => k_is); (case k8 => k_is); (case k9 => k_is); (case k10 => k_get); (case k11 => k_put); (case k12 => k_upd); (case k13 => first | exact Nat.le_of_ble_eq_true rfl | (have h9 := MoreOk.len (by assumption); simp only [List.length_cons]; omega)); k_whole; intro h' F' N'; (try k_sweep)))))
local macro_rules | `(tactic| walk_at "call builtin:list.extend") => `(tactic| (k_here; (with_reducible show wpAny _ _ (call (Value.builtin _) [Value.ref _, Value.str _ _]) _ _ _); k_dflt (first
  | (refine' lx_extend0 ?hh ?F ?N ?D ?_; (case hh => exact rfl); (case F => k_asm); (case N => k_asm); (case D => k_mem); intro h' tk' F' N'; (try k_sweep))
  | (refine' lx_extend1 ?hh ?F ?N ?U ?_; (case hh => exact rfl); (case F => k_asm); (case N => k_asm); (case U => k_updF); intro h' tk' u' c' F' N'; (try dsimp only at N'); (try k_sweep)))))
local macro_rules | `(tactic| walk_at "call type:list") => `(tactic| (k_here; (with_reducible show wpAny _ _ (call (Value.type _) [Value.str _ _]) _ _ _); k_dflt (first
  | (refine' lx_list0 ?hh ?F ?N ?_; (case hh => exact rfl); (case F => k_asm); (case N => k_asm); intro p' h' tk' c' F' N' l1; (try k_lt l1); (try k_sweep))
  | (refine' lx_list1 ?hh ?F ?N ?_; (case hh => exact rfl); (case F => k_asm); (case N => k_asm); intro p' h' tk' u' c' F' N' l1; (try k_lt l1); (try k_sweep)))))
local macro_rules | `(tactic| tb_rel) => `(tactic| (refine' cb_drop ?cN ?cS; (case cN => assumption); (case cS => (repeat (first | exact List.forall_mem_nil _ | refine List.forall_mem_cons.mpr ⟨by k_mem, ?_⟩)))))
/-! ### read, peek and pushback, whatever waits -/
theorem lexRead_u {prog : Program} {w : World} {p : Program} {loose : List Str} {mean : ExcName → Option Value} {mg mb : Str → Option Value}
    {dp un : Nat} {gd : Option (List Code)} {cn : Str} {cs : Scope} {a : Addr} {ccd : Value} {cl : List (Str × Addr)} {outer : List Env} {A₀ : Around} {base h₀ : Heap} {L : Addr} {m : Str → Option Value} {s : Shared} {Q E : Value → Shared → Prop}
    {x dx f df q cq : Nat} {y : LexT} {st : Value} {eof : Bool} {z : SioT} {tp : Tok} {l rem : List Nat} {qs : List Value} {pos : Nat} {tn : Tok} {pre post : List (Addr × Obj)}
    (B : Below A₀ base outer h₀) (F : Fr h₀ L s.heap m) (X : (hd.heap_39 w.params).In h₀)
    (N : News h₀ L s.heap (pre ++ ([(x, instObj 690 dx), (dx, lexObj w y f q st eof), (f, instObj 569 df), (df, sioObj w z l (pos) tp), (q, listOf qs.toArray cq)] ++ post)))
    (Tp : Top p loose mean mg mb h₀) (hcs : cs.kind = .function) (hdp : dp + 4 < recursionLimit) (hun : un + 60 < cLine)
    (hoff : LxOff [(x, instObj 690 dx), (dx, lexObj w y f q st eof), (f, instObj 569 df), (df, sioObj w z l (pos) tp), (q, listOf qs.toArray cq)] (pre ++ post)) (hside : dx < x ∧ x < df ∧ df < f ∧ f < q ∧ MoreOk y.more ∧ (tx l).length ≤ 1000 ∧ pos ≤ 1000 ∧ QRem qs l pos rem)
    (hret : ∀ t tp' pos' cq' h' tk', (tx (rem.take 1)).length ≤ 1 → pos' ≤ 1000 → l.drop pos' = rem.drop 1 → QRem [] l pos' (rem.drop 1) → Fr h₀ L h' m → News h₀ L h' (pre ++ ([(x, instObj 690 dx), (dx, lexObj w y f q st (eof || rem.isEmpty)), (f, instObj 569 df), (df, sioObj w z l (pos') tp'), (q, listOf #[] cq')] ++ post)) → Q (.str (tx (rem.take 1)) t) { s with heap := h', toks := tk' }) :
    wpAny (model prog w) (ktrTop dp un gd cn cs L a ccd cl outer) (call (.ref 616) [.ref x, .int 1 tn]) Q E s := by
  obtain ⟨h1, h2, h3, h4, hm, hT, hpos, hq⟩ := hside
  cases hq with
  | nil hd =>
    cases rem with
    | nil =>
      refine lexRead0_e B F X N Tp hcs hdp hun hoff ⟨h1, h2, h3, h4, hm, hT, hpos, hd⟩ fun t tp' h' tk' F' N' => ?_
      refine hret t tp' pos cq h' tk' (by decide) hpos hd (.nil hd) F' ?_
      rw [List.isEmpty_nil, Bool.or_true]
      exact N'
    | cons c r =>
      refine lexRead0_c B F X N Tp hcs hdp hun hoff ⟨h1, h2, h3, h4, hm, hT, hpos, hd⟩ fun t tp' h' tk' hl hp F' N' => ?_
      have hd1 : l.drop (pos + 1) = (c :: r).drop 1 := by rw [← List.drop_drop, hd]
      refine hret t tp' (pos + 1) cq h' tk' hl hp hd1 (.nil hd1) F' ?_
      rw [List.isEmpty_cons, Bool.or_false]
      exact N'
  | one hd =>
    refine lexRead1_1 B F X N Tp hcs hdp hun hoff ⟨h1, h2, h3, h4, hm, hT, hpos⟩ fun t tp' h' tk' hl F' N' => ?_
    refine hret t tp' pos (cq + 1) h' tk' hl hpos hd (.nil hd) F' ?_
    rw [List.isEmpty_cons, Bool.or_false]
    exact N'

theorem lexPeek_u {prog : Program} {w : World} {p : Program} {loose : List Str} {mean : ExcName → Option Value} {mg mb : Str → Option Value}
    {dp un : Nat} {gd : Option (List Code)} {cn : Str} {cs : Scope} {a : Addr} {ccd : Value} {cl : List (Str × Addr)} {outer : List Env} {A₀ : Around} {base h₀ : Heap} {L : Addr} {m : Str → Option Value} {s : Shared} {Q E : Value → Shared → Prop}
    {x dx f df q cq : Nat} {y : LexT} {st : Value} {eof : Bool} {z : SioT} {tp : Tok} {l rem : List Nat} {qs : List Value} {pos : Nat} {tn : Tok} {pre post : List (Addr × Obj)}
    (B : Below A₀ base outer h₀) (F : Fr h₀ L s.heap m) (X : (hd.heap_39 w.params).In h₀)
    (N : News h₀ L s.heap (pre ++ ([(x, instObj 690 dx), (dx, lexObj w y f q st eof), (f, instObj 569 df), (df, sioObj w z l (pos) tp), (q, listOf qs.toArray cq)] ++ post)))
    (Tp : Top p loose mean mg mb h₀) (hcs : cs.kind = .function) (hdp : dp + 4 < recursionLimit) (hun : un + 60 < cLine)
    (hoff : LxOff [(x, instObj 690 dx), (dx, lexObj w y f q st eof), (f, instObj 569 df), (df, sioObj w z l (pos) tp), (q, listOf qs.toArray cq)] (pre ++ post)) (hside : dx < x ∧ x < df ∧ df < f ∧ f < q ∧ MoreOk y.more ∧ (tx l).length ≤ 1000 ∧ pos ≤ 1000 ∧ QRem qs l pos rem)
    (hret : ∀ t tp' pos' (qs' : List Value) cq' h' tk', (tx (rem.take 1)).length ≤ 1 → pos' ≤ 1000 → QRem qs' l pos' rem → Fr h₀ L h' m → News h₀ L h' (pre ++ ([(x, instObj 690 dx), (dx, lexObj w y f q st (eof || rem.isEmpty)), (f, instObj 569 df), (df, sioObj w z l (pos') tp'), (q, listOf qs'.toArray cq')] ++ post)) → Q (.str (tx (rem.take 1)) t) { s with heap := h', toks := tk' }) :
    wpAny (model prog w) (ktrTop dp un gd cn cs L a ccd cl outer) (call (.ref 624) [.ref x, .int 1 tn]) Q E s := by
  obtain ⟨h1, h2, h3, h4, hm, hT, hpos, hq⟩ := hside
  cases hq with
  | nil hd =>
    cases rem with
    | nil =>
      refine lexPeek_e B F X N Tp hcs hdp hun hoff ⟨h1, h2, h3, h4, hm, hT, hpos, hd⟩ fun t tp' cq' h' tk' F' N' => ?_
      refine hret t tp' pos [] cq' h' tk' (by decide) hpos (.nil hd) F' ?_
      rw [List.isEmpty_nil, Bool.or_true]
      exact N'
    | cons c r =>
      refine lexPeek_c B F X N Tp hcs hdp hun hoff ⟨h1, h2, h3, h4, hm, hT, hpos, hd⟩ fun t tp' tc cq' h' tk' hl hp F' N' => ?_
      refine hret t tp' (pos + 1) [.str (tx [c]) tc] cq' h' tk' hl hp (.one ?_) F' ?_
      · rw [← List.drop_drop, hd]; rfl
      · rw [List.isEmpty_cons, Bool.or_false]
        exact N'
  | one hd =>
    rename_i tc r
    refine lexPeek_1 B F X N Tp hcs hdp hun hoff ⟨h1, h2, h3, h4, hm, hT, hpos⟩ fun t tp' cq' h' tk' hl F' N' => ?_
    refine hret t tp' pos _ cq' h' tk' hl hpos (.one (tc := tc) hd) F' ?_
    rw [List.isEmpty_cons, Bool.or_false]
    exact N'

theorem lexPush_u {prog : Program} {w : World} {p : Program} {loose : List Str} {mean : ExcName → Option Value} {mg mb : Str → Option Value}
    {dp un : Nat} {gd : Option (List Code)} {cn : Str} {cs : Scope} {a : Addr} {ccd : Value} {cl : List (Str × Addr)} {outer : List Env} {A₀ : Around} {base h₀ : Heap} {L : Addr} {m : Str → Option Value} {s : Shared} {Q E : Value → Shared → Prop}
    {x dx f df q cq : Nat} {y : LexT} {st : Value} {eof : Bool} {z : SioT} {tp : Tok} {l rem : List Nat} {pos : Nat} {tn : Tok} {pre post : List (Addr × Obj)}
    (B : Below A₀ base outer h₀) (F : Fr h₀ L s.heap m) (X : (hd.heap_39 w.params).In h₀)
    (N : News h₀ L s.heap (pre ++ ([(x, instObj 690 dx), (dx, lexObj w y f q st eof), (f, instObj 569 df), (df, sioObj w z l (pos) tp), (q, listOf #[] cq)] ++ post)))
    (Tp : Top p loose mean mg mb h₀) (hcs : cs.kind = .function) (hdp : dp + 4 < recursionLimit) (hun : un + 60 < cLine)
    (hoff : LxOff [(x, instObj 690 dx), (dx, lexObj w y f q st eof), (f, instObj 569 df), (df, sioObj w z l (pos) tp), (q, listOf #[] cq)] (pre ++ post)) (hside : dx < x ∧ x < df ∧ df < f ∧ f < q ∧ MoreOk y.more ∧ (tx l).length ≤ 1000 ∧ pos ≤ 1000 ∧ l.drop pos = rem.drop 1)
    (hret : ∀ (q' : Nat) (qs' : List Value) cq' h' tk', f < q' → AllNe q' (pre ++ post) → QRem qs' l pos rem → Fr h₀ L h' m → News h₀ L h' (pre ++ ([(x, instObj 690 dx), (dx, lexObj w y f q' st eof), (f, instObj 569 df), (df, sioObj w z l (pos) tp), (q', listOf qs'.toArray cq')] ++ post)) → Q .none { s with heap := h', toks := tk' }) :
    wpAny (model prog w) (ktrTop dp un gd cn cs L a ccd cl outer) (call (.ref 631) [.ref x, .str (tx (rem.take 1)) tn]) Q E s := by
  obtain ⟨h1, h2, h3, h4, hm, hT, hpos, hd⟩ := hside
  cases rem with
  | nil =>
    refine lexPush_0 B F X N Tp hcs hdp hun hoff ⟨h1, h2, h3, h4, hm, hT, hpos⟩ fun q' cq' h' tk' hf ha F' N' => ?_
    exact hret q' [] cq' h' tk' hf ha (.nil hd) F' N'
  | cons c r =>
    refine lexPush_1 B F X N Tp hcs hdp hun hoff ⟨h1, h2, h3, h4, hm, hT, hpos⟩ fun q' cq' tc h' tk' hf ha F' N' => ?_
    exact hret q' [.str (tx [c]) tc] cq' h' tk' hf ha (.one hd) F' N'
end
section
theorem reset7 : True := by
  w_top off
  trivial
/-! ### the lines (local) -/
local macro_rules | `(tactic| k_in) => `(tactic| first | with_reducible assumption | exact Frag.In.keeps (by with_reducible assumption) (Fr.keep (by with_reducible assumption)) | exact Frag.In.keeps (by with_reducible assumption) (Fr.keep (by k_asm)))
local macro_rules | `(tactic| k_room) => `(tactic| ktr_room)
/- entry into a def whose ledger is a part of the caller's -/
local macro_rules | `(tactic| ktr_enter) => `(tactic| (refine' code_lx ?k1 ?k2 ?k3 ?k4 ?kO ?k5 ?kA ?kF ?kK ?k6 ?k7 ?k8 ?k9 ?kB ?_ ?c2 ?c3 ?c4 ?c5; (case kA => exact rfl); (case kF => exact rfl); (case kK => first | exact rfl | assumption); (case k1 => k_asm); (case k2 => k_asm); (case k3 => k_asm); (case k4 => k_asm); (case kO => assumption); (case k5 => k_asm); (case k6 => k_is); (case k7 => k_is); (case k8 => k_room); (case k9 => first | exact BindsTo.of_eq rfl | exact binds_K (by k_in) rfl (by k_is) rfl rfl rfl | fail "k_enter: no rule for these arguments"); (case c5 => decide); (case kB => exact locs rfl); (case c2 => exact rfl); (case c3 => exact rfl); (case c4 => exact rfl); k_whole; intro g' L' h' FG' F' N' B' X' T' l1; (try k_lt l1); (try dsimp only); (try k_lift B'); (try k_fold)))
/- apartness -/
local macro_rules | `(tactic| ktr_rel) => `(tactic| first | assumption | ((try simp only [List.cons_append, List.nil_append, List.append_nil]); repeat (first | exact LxOff.nil | refine LxOff.cons (by k_all) ?_)))
/- a dict of six written entries and a tail -/
local macro_rules | `(tactic| k_get) => `(tactic| first
  | (refine' get6_hit ?hm ?h; (case hm => assumption); (case h => k_get))
  | (refine' get6_miss ?hm ?n1 ?n2 ?h; (case hm => assumption); (case n1 => decide +kernel); (case n2 => decide +kernel); (case h => k_get))
  | (refine' get6_is ?hm ?h ?h2; (case hm => assumption); (case h => k_get); (case h2 => (intro h9; exact absurd (h9.symm.trans (by k_get)) (by nofun)))))
local macro_rules | `(tactic| k_put) => `(tactic| (refine' put6 ?hm ?h; (case hm => assumption); (case h => k_put)))
local macro_rules | `(tactic| walk_at "setAttr ref") => `(tactic| (k_here; k_dflt ((refine' set_dict ?k1 ?k2 ?k3 ?k4 ?k5 ?k6 ?k7 ?k8 ?k9 ?k10 ?k11 ?k12 ?k13 ?_; (case k1 => k_asm); (case k2 => k_asm); (case k3 => k_asm); (case k4 => k_inst); (case k5 => exact rfl); (case k6 => k_is); (case k7 => k_is); (case k8 => k_is); (case k9 => k_is); (case k10 => k_get); (case k11 => k_put); (case k12 => k_upd); (case k13 => first | exact Nat.le_of_ble_eq_true rfl | (have h9 := MoreOk.len (by assumption); simp only [List.length_cons]; omega)); k_whole; intro h' F' N'; (try k_sweep)))))
local macro_rules | `(tactic| walk_at "call builtin:list.extend") => `(tactic| (k_here; (with_reducible show wpAny _ _ (call (Value.builtin _) [Value.ref _, Value.str _ _]) _ _ _); k_dflt (first
  | (refine' lx_extend0 ?hh ?F ?N ?D ?_; (case hh => exact rfl); (case F => k_asm); (case N => k_asm); (case D => k_mem); intro h' tk' F' N'; (try k_sweep))
  | (refine' lx_extend1 ?hh ?F ?N ?U ?_; (case hh => exact rfl); (case F => k_asm); (case N => k_asm); (case U => k_updF); intro h' tk' u' c' F' N'; (try dsimp only at N'); (try k_sweep)))))
local macro_rules | `(tactic| walk_at "call type:list") => `(tactic| (k_here; (with_reducible show wpAny _ _ (call (Value.type _) [Value.str _ _]) _ _ _); k_dflt (first
  | (refine' lx_list0 ?hh ?F ?N ?_; (case hh => exact rfl); (case F => k_asm); (case N => k_asm); intro p' h' tk' c' F' N' l1; (try k_lt l1); (try k_sweep))
  | (refine' lx_list1 ?hh ?F ?N ?_; (case hh => exact rfl); (case F => k_asm); (case N => k_asm); intro p' h' tk' u' c' F' N' l1; (try k_lt l1); (try k_sweep)))))
local macro_rules | `(tactic| tb_rel) => `(tactic| (refine' cb_drop ?cN ?cS; (case cN => assumption); (case cS => (repeat (first | exact List.forall_mem_nil _ | refine List.forall_mem_cons.mpr ⟨by k_mem, ?_⟩)))))
/-! ### self.minalpha, self.mindigits -/
section
variable {prog : Program} {w : World} {A : Around} {E : Value → Shared → Prop} {s : Shared} {h₀ : Heap} {L : Addr} {m : Str → Option Value} {news : List (Addr × Obj)} {expr : Bool} {Q : Value → Shared → Prop}
  {x dx f q : Nat} {y : LexT} {st : Value} {eof : Bool} {a b : Int}
theorem lx_minalpha (F : Fr h₀ L s.heap m) (X : (hd.heap_39 w.params).In h₀) (N : News h₀ L s.heap news) (hx : (x, instObj 690 dx) ∈ news) (hd : (dx, lexObj w y f q st eof) ∈ news) (hm : MoreIs w y.more a b)
    (h : ∀ t, Q (.int a t) { s with toks := s.toks + 1 }) : wpAny (model prog w) A (getAttr (.ref x) (Str.ofString "minalpha") expr) Q E s := by
  obtain ⟨kf, kd, kq, ks, kc, ke, nE, more⟩ := y
  rcases hm with ⟨hm, ha, hb⟩ | ⟨k1, k2, t1, t2, hm⟩
  · dsimp only at hm
    subst hm ha hb
    k_dflt (refine' get_cls ?k1 ?k2 ?k3 ?k4 ?k5 ?k6 ?k7 ?k8 ?k9 ?k10 ?_)
    case k1 => k_asm
    case k2 => k_asm
    case k3 => exact InstAt.of_news N hx hd
    case k4 => k_is
    case k5 => k_is
    case k6 => k_is
    case k7 => k_is
    case k8 => k_handed
    case k9 => decide +kernel
    case k10 => k_get
    exact h _
  · dsimp only at hm
    subst hm
    k_dflt (refine' get_own ?k1 ?k2 ?k3 ?k4 ?k5 ?k6 ?k7 ?k8 ?k9 ?_)
    case k1 => k_asm
    case k2 => k_asm
    case k3 => exact InstAt.of_news N hx hd
    case k4 => k_is
    case k5 => k_is
    case k6 => k_is
    case k7 => k_is
    case k8 => k_get
    case k9 => k_handed
    exact h _
theorem lx_mindigits (F : Fr h₀ L s.heap m) (X : (hd.heap_39 w.params).In h₀) (N : News h₀ L s.heap news) (hx : (x, instObj 690 dx) ∈ news) (hd : (dx, lexObj w y f q st eof) ∈ news) (hm : MoreIs w y.more a b)
    (h : ∀ t, Q (.int b t) { s with toks := s.toks + 1 }) : wpAny (model prog w) A (getAttr (.ref x) (Str.ofString "mindigits") expr) Q E s := by
  obtain ⟨kf, kd, kq, ks, kc, ke, nE, more⟩ := y
  rcases hm with ⟨hm, ha, hb⟩ | ⟨k1, k2, t1, t2, hm⟩
  · dsimp only at hm
    subst hm ha hb
    k_dflt (refine' get_cls ?k1 ?k2 ?k3 ?k4 ?k5 ?k6 ?k7 ?k8 ?k9 ?k10 ?_)
    case k1 => k_asm
    case k2 => k_asm
    case k3 => exact InstAt.of_news N hx hd
    case k4 => k_is
    case k5 => k_is
    case k6 => k_is
    case k7 => k_is
    case k8 => k_handed
    case k9 => decide +kernel
    case k10 => k_get
    exact h _
  · dsimp only at hm
    subst hm
    k_dflt (refine' get_own ?k1 ?k2 ?k3 ?k4 ?k5 ?k6 ?k7 ?k8 ?k9 ?_)
    case k1 => k_asm
    case k2 => k_asm
    case k3 => exact InstAt.of_news N hx hd
    case k4 => k_is
    case k5 => k_is
    case k6 => k_is
    case k7 => k_is
    case k8 => k_get
    case k9 => k_handed
    exact h _
end
end
section
theorem reset8 : True := by
  w_top off
  trivial
/-! ### the lines (local) -/
local macro_rules | `(tactic| k_in) => `(tactic| first | with_reducible assumption | exact Frag.In.keeps (by with_reducible assumption) (Fr.keep (by with_reducible assumption)) | exact Frag.In.keeps (by with_reducible assumption) (Fr.keep (by k_asm)))
local macro_rules | `(tactic| k_room) => `(tactic| ktr_room)
/- entry into a def whose ledger is a part of the caller's -/
local macro_rules | `(tactic| ktr_enter) => `(tactic| (refine' code_lx ?k1 ?k2 ?k3 ?k4 ?kO ?k5 ?kA ?kF ?kK ?k6 ?k7 ?k8 ?k9 ?kB ?_ ?c2 ?c3 ?c4 ?c5; (case kA => exact rfl); (case kF => exact rfl); (case kK => first | exact rfl | assumption); (case k1 => k_asm); (case k2 => k_asm); (case k3 => k_asm); (case k4 => k_asm); (case kO => assumption); (case k5 => k_asm); (case k6 => k_is); (case k7 => k_is); (case k8 => k_room); (case k9 => first | exact BindsTo.of_eq rfl | exact binds_K (by k_in) rfl (by k_is) rfl rfl rfl | fail "k_enter: no rule for these arguments"); (case c5 => decide); (case kB => exact locs rfl); (case c2 => exact rfl); (case c3 => exact rfl); (case c4 => exact rfl); k_whole; intro g' L' h' FG' F' N' B' X' T' l1; (try k_lt l1); (try dsimp only); (try k_lift B'); (try k_fold)))
/- apartness -/
local macro_rules | `(tactic| ktr_rel) => `(tactic| first | assumption | ((try simp only [List.cons_append, List.nil_append, List.append_nil]); repeat (first | exact LxOff.nil | refine LxOff.cons (by k_all) ?_)))
/- a dict of six written entries and a tail -/
local macro_rules | `(tactic| k_get) => `(tactic| first
  | (refine' get6_hit ?hm ?h; (case hm => assumption); (case h => k_get))
  | (refine' get6_miss ?hm ?n1 ?n2 ?h; (case hm => assumption); (case n1 => decide +kernel); (case n2 => decide +kernel); (case h => k_get))
  | (refine' get6_is ?hm ?h ?h2; (case hm => assumption); (case h => k_get); (case h2 => (intro h9; exact absurd (h9.symm.trans (by k_get)) (by nofun)))))
local macro_rules | `(tactic| k_put) => `(tactic| (refine' put6 ?hm ?h; (case hm => assumption); (case h => k_put)))
local macro_rules | `(tactic| walk_at "setAttr ref") => `(tactic| (k_here; k_dflt ((refine' set_dict ?k1 ?k2 ?k3 ?k4 ?k5 ?k6 ?k7 ?k8 ?k9 ?k10 ?k11 ?k12 ?k13 ?_; (case k1 => k_asm); (case k2 => k_asm); (case k3 => k_asm); (case k4 => k_inst); (case k5 => exact rfl); (case k6 => k_is); (case k7 => k_is); (case k8 => k_is); (case k9 => k_is); (case k10 => k_get); (case k11 => k_put); (case k12 => k_upd); (case k13 => first | exact Nat.le_of_ble_eq_true rfl | (have h9 := MoreOk.len (by assumption); simp only [List.length_cons]; omega)); k_whole; intro h' F' N'; (try k_sweep)))))
local macro_rules | `(tactic| walk_at "call builtin:list.extend") => `(tactic| (k_here; (with_reducible show wpAny _ _ (call (Value.builtin _) [Value.ref _, Value.str _ _]) _ _ _); k_dflt (first
  | (refine' lx_extend0 ?hh ?F ?N ?D ?_; (case hh => exact rfl); (case F => k_asm); (case N => k_asm); (case D => k_mem); intro h' tk' F' N'; (try k_sweep))
  | (refine' lx_extend1 ?hh ?F ?N ?U ?_; (case hh => exact rfl); (case F => k_asm); (case N => k_asm); (case U => k_updF); intro h' tk' u' c' F' N'; (try dsimp only at N'); (try k_sweep)))))
local macro_rules | `(tactic| walk_at "call type:list") => `(tactic| (k_here; (with_reducible show wpAny _ _ (call (Value.type _) [Value.str _ _]) _ _ _); k_dflt (first
  | (refine' lx_list0 ?hh ?F ?N ?_; (case hh => exact rfl); (case F => k_asm); (case N => k_asm); intro p' h' tk' c' F' N' l1; (try k_lt l1); (try k_sweep))
  | (refine' lx_list1 ?hh ?F ?N ?_; (case hh => exact rfl); (case F => k_asm); (case N => k_asm); intro p' h' tk' u' c' F' N' l1; (try k_lt l1); (try k_sweep)))))
local macro_rules | `(tactic| tb_rel) => `(tactic| (refine' cb_drop ?cN ?cS; (case cN => assumption); (case cS => (repeat (first | exact List.forall_mem_nil _ | refine List.forall_mem_cons.mpr ⟨by k_mem, ?_⟩)))))
/- the call of a def by its contract: ktr_call CONTRACT PRE -/
local macro_rules | `(tactic| ktr_unf) => `(tactic| (intros; (with_reducible rename News _ _ _ _ => N9); (try simp only [List.cons_append, List.nil_append] at N9); (try dsimp only); (try k_fold); (try k_sweep)))
local macro_rules | `(tactic| tb_start) => `(tactic| ((repeat' apply And.intro) <;> first | assumption | omega | rfl))
local macro_rules | `(tactic| ktr_call $x:term $c:term) => `(tactic| (refine' $x (pre := $c) ?k1 ?k2 ?k3 ?k4 ?k5 ?kK ?kd ?ku ?kO ?kS ?_; (case k4 => k_asm); (case kS => tb_start); (case k1 => k_asm); (case k2 => k_asm); (case k3 => k_asm); (case k5 => k_asm); (case kK => first | exact rfl | assumption); (case kd => ktr_room); (case ku => ktr_units); (case kO => ktr_rel); ktr_unf))
local macro_rules | `(tactic| walk_at "exec While") => `(tactic| (k_here; k_dflt (refine whl_start 100 ?_)))
local macro_rules | `(tactic| walk_at "exec While BoolOp") => `(tactic| (k_here; k_dflt (refine whl_start 100 ?_)))
local macro_rules | `(tactic| walk_at "call ref") => `(tactic| (k_here; (with_reducible show wpAny _ _ (call (Value.ref 515) [Value.ref _, Value.int _ _] []) _ _ _); k_dflt (first
  | ktr_call sioRead_e [] | ktr_call sioRead_e [_] | ktr_call sioRead_e [_, _] | ktr_call sioRead_e [_, _, _] | ktr_call sioRead_e [_, _, _, _]
  | ktr_call sioRead_c [] | ktr_call sioRead_c [_] | ktr_call sioRead_c [_, _] | ktr_call sioRead_c [_, _, _] | ktr_call sioRead_c [_, _, _, _]
  | ktr_call sioRead_0 [] | ktr_call sioRead_0 [_] | ktr_call sioRead_0 [_, _] | ktr_call sioRead_0 [_, _, _] | ktr_call sioRead_0 [_, _, _, _]
  | ktr_call sioRead [] | ktr_call sioRead [_] | ktr_call sioRead [_, _] | ktr_call sioRead [_, _, _] | ktr_call sioRead [_, _, _, _])))
/- a while is held; the contracts of read, peek, pushback -/
local macro_rules | `(tactic| walk_at "exec While") => `(tactic| (k_here; refine lx_hold ?_))
local macro_rules | `(tactic| walk_at "exec While BoolOp") => `(tactic| (k_here; refine lx_hold ?_))
local macro_rules | `(tactic| ktr_unf) => `(tactic| (intros; (try ((with_reducible rename AllNe _ _ => O9); simp only [List.cons_append, List.nil_append, AllNe, and_true] at O9)); (with_reducible rename News _ _ _ _ => N9); (try simp only [List.cons_append, List.nil_append] at N9); (try dsimp only); (try k_fold); (try k_sweep)))
local macro_rules | `(tactic| walk_at "call ref") => `(tactic| (k_here; (with_reducible show wpAny _ _ (call (Value.ref 616) [Value.ref _, Value.int _ _] []) _ _ _); k_dflt (first
  | ktr_call lexRead_u [] | ktr_call lexRead_u [_] | ktr_call lexRead_u [_, _] | ktr_call lexRead_u [_, _, _] | ktr_call lexRead_u [_, _, _, _])))
local macro_rules | `(tactic| walk_at "call ref") => `(tactic| (k_here; (with_reducible show wpAny _ _ (call (Value.ref 624) [Value.ref _, Value.int _ _] []) _ _ _); k_dflt (first
  | ktr_call lexPeek_u [] | ktr_call lexPeek_u [_] | ktr_call lexPeek_u [_, _] | ktr_call lexPeek_u [_, _, _] | ktr_call lexPeek_u [_, _, _, _])))
local macro_rules | `(tactic| walk_at "call ref") => `(tactic| (k_here; (with_reducible show wpAny _ _ (call (Value.ref 631) [Value.ref _, Value.str _ _] []) _ _ _); k_dflt (first
  | ktr_call lexPush_u [] | ktr_call lexPush_u [_] | ktr_call lexPush_u [_, _] | ktr_call lexPush_u [_, _, _] | ktr_call lexPush_u [_, _, _, _])))
local macro_rules | `(tactic| walk_at "call builtin:str.join") => `(tactic| (k_here; (with_reducible show wpAny _ _ (call (Value.builtin _) [Value.str _ _, Value.ref _]) _ _ _); k_dflt (refine' lx_join ?N ?D ?l ?_; (case N => k_asm); (case D => k_mem); (case l => first | assumption | omega)); intro t' k' hl'))
local macro_rules | `(tactic| walk_at "getAttr ref") => `(tactic| (k_here; (with_reducible show wpAny _ _ (getAttr (Value.ref _) (PySem.Str.ofString "minalpha") _) _ _ _); k_dflt (refine' lx_minalpha ?F ?X ?N ?x ?d ?m ?_; (case F => k_asm); (case X => k_in); (case N => k_asm); (case x => k_mem); (case d => k_mem); (case m => assumption); intro t')))
local macro_rules | `(tactic| walk_at "getAttr ref") => `(tactic| (k_here; (with_reducible show wpAny _ _ (getAttr (Value.ref _) (PySem.Str.ofString "mindigits") _) _ _ _); k_dflt (refine' lx_mindigits ?F ?X ?N ?x ?d ?m ?_; (case F => k_asm); (case X => k_in); (case N => k_asm); (case x => k_mem); (case d => k_mem); (case m => assumption); intro t')))
local macro_rules | `(tactic| walk_at "WhlIf") => `(tactic| (first | (refine WhlIf.yes (by assumption) ?_) | (refine WhlIf.no (by assumption) ?_)))
local macro_rules | `(tactic| walk_at "call builtin:list.append") => `(tactic| (k_here; (with_reducible show wpAny _ _ (call (Value.builtin _) [Value.ref _, Value.str _ _]) _ _ _); k_dflt (refine' lx_append ?F ?N ?l ?U ?_; (case F => k_asm); (case N => k_asm); (case U => k_upd); (case l => assumption); intro h' F' N'; (try k_sweep))))
local macro_rules | `(tactic| walk_at "call builtin:len") => `(tactic| (k_here; (with_reducible show wpAny _ _ (call (Value.builtin "len") [Value.ref _]) _ _ _); k_dflt (refine' lx_len ?N ?D ?l ?_; (case N => k_asm); (case D => k_mem); (case l => assumption); intro t' tk')))
/-! ### lexAlpha -/
theorem lexAlpha_u_c {prog : Program} {w : World} {p : Program} {loose : List Str} {mean : ExcName → Option Value} {mg mb : Str → Option Value}
    {dp un : Nat} {gd : Option (List Code)} {cn : Str} {cs : Scope} {a : Addr} {ccd : Value} {cl : List (Str × Addr)} {outer : List Env} {A₀ : Around} {base h₀ : Heap} {L : Addr} {m : Str → Option Value} {s : Shared} {Q E : Value → Shared → Prop}
    {x dx f df q cq : Nat} {y : LexT} {st : Value} {z : SioT} {tp : Tok} {l rem : List Nat} {qs : List Value} {pos : Nat} {la ld : Int} {pre post : List (Addr × Obj)}
    (B : Below A₀ base outer h₀) (F : Fr h₀ L s.heap m) (X : (hd.heap_39 w.params).In h₀)
    (N : News h₀ L s.heap (pre ++ ([(x, instObj 690 dx), (dx, lexObj w y f q st false), (f, instObj 569 df), (df, sioObj w z l (pos) tp), (q, listOf qs.toArray cq)] ++ post)))
    (Tp : Top p loose mean mg mb h₀) (hcs : cs.kind = .function) (hdp : dp + 8 < recursionLimit) (hun : un + 100 < cLine)
    (hoff : LxOff [(x, instObj 690 dx), (dx, lexObj w y f q st false), (f, instObj 569 df), (df, sioObj w z l (pos) tp), (q, listOf qs.toArray cq)] (pre ++ post)) (hside : dx < x ∧ x < df ∧ df < f ∧ f < q ∧ MoreOk y.more ∧ (tx l).length ≤ 1000 ∧ pos ≤ 1000 ∧ QRem qs l pos rem ∧ MoreIs w y.more la ld ∧ (∀ c ∈ rem, c < 128) ∧ rem.length ≤ 1000)
    (hret0 : ∀ (rt t2 ms q' : Nat) (qs' : List Value) pos' tp' cq' k1 k2 h' tk', la ≤ ((rem.takeWhile al).length : Int) → pos' ≤ 1000 → QRem qs' l pos' (rem.dropWhile al) → f < q' → q' < t2 → t2 < ms → ms < rt → AllNe q' (pre ++ post) → AllNe t2 (pre ++ post) → AllNe ms (pre ++ post) → AllNe rt (pre ++ post) → Fr h₀ L h' m → News h₀ L h' (pre ++ ([(rt, tupOf [.ref t2, .ref ms]), (t2, tupOf [.str (Str.ofString "STRING") k1, .str (tx (rem.takeWhile al)) k2]), (ms, methodObj (.ref 673) (.ref x)), (x, instObj 690 dx), (dx, lexObj w y f q' st (rem.dropWhile al).isEmpty), (f, instObj 569 df), (df, sioObj w z l (pos') tp'), (q', listOf qs'.toArray cq')] ++ post)) → Q (.ref rt) { s with heap := h', toks := tk' })
    (hret1 : ∀ (rt ms q' : Nat) (qs' : List Value) pos' tp' cq' h' tk', ((rem.takeWhile al).length : Int) < la → pos' ≤ 1000 → QRem qs' l pos' (rem.dropWhile al) → f < q' → q' < ms → ms < rt → AllNe q' (pre ++ post) → AllNe ms (pre ++ post) → AllNe rt (pre ++ post) → Fr h₀ L h' m → News h₀ L h' (pre ++ ([(rt, tupOf [.none, .ref ms]), (ms, methodObj (.ref 673) (.ref x)), (x, instObj 690 dx), (dx, lexObj w y f q' st (rem.dropWhile al).isEmpty), (f, instObj 569 df), (df, sioObj w z l (pos') tp'), (q', listOf qs'.toArray cq')] ++ post)) → Q (.ref rt) { s with heap := h', toks := tk' }) :
    codeAny (model prog w) (ktrTop dp un gd cn cs L a ccd cl outer) (.call (.ref 687) ⟨[.ref x], []⟩) (LxR Q E) s := by
  obtain ⟨h1, h2, h3, h4, hm, hT, hpos, hq, hmi, hasc, hrl⟩ := hside
  k_dflt ktr_enter
  k_steps
  refine LxHold.out ?_
  k_dflt (refine' lx_while (AlphaI _ _ _ _ _ _ _ _ _ _ _ _ _ _ _ _ al) _ (alphaI_start ?xF ?xN ?xp ?xd) ?turn ?hE)
  case xF => k_asm
  case xN => k_asm
  case xp => assumption
  case xd => assumption
  case hE => first | passes_own | with_unfolding_all passes_own
  case turn =>
    intro n s' hI
    obtain ⟨ps, rem', tc, pos', tp', cq', ns, h, tk, hn, rfl, F2, N2, hp2, hd2, hrem, hal⟩ := hI
    subst hn
    have hpl : ps.length ≤ 1000 := by
      have := congrArg List.length hrem
      simp only [List.length_append, List.length_map] at this
      omega
    cases rem' with
    | nil =>
      have hb : Txt.isalpha (tx (List.take 1 [])) = false := isalpha_nil
      obtain ⟨e1, e2⟩ := take_pred (pr := al) (b := []) hal (by simp)
      rw [← hrem] at e1 e2
      rw [e1, e2] at hret0 hret1
      k_steps
      · intro lift
        (try dsimp only)
        refine' lx_use (lift [(_, tupOf [.ref _, .ref _]), (_, tupOf [.str (Str.ofString "STRING") _, .str (tx (ps.map (·.1))) _]), (_, methodObj (.ref 673) (.ref x)), (x, instObj 690 dx), (dx, lexObj w y f ?zq1 st _), (f, instObj 569 df), (df, sioObj w z l _ _), (?zq1, listOf (List.toArray _) _)] _ ?n11 ?n21) ?mm1
        case n11 => tb_rel
        case n21 => tb_rel
        case mm1 =>
          intro LL
          exact hret0 _ _ _ _ _ _ _ _ _ _ _ _ (by rw [List.length_map]; assumption) (by assumption) (by assumption) (by omega) (by omega) (by omega) (by omega) (LL.2.last (by k_mem)) (LL.2.last (by k_mem)) (LL.2.last (by k_mem)) (LL.2.last (by k_mem)) (by assumption) LL.1
      · intro lift
        (try dsimp only)
        refine' lx_use (lift [(_, tupOf [.none, .ref _]), (_, methodObj (.ref 673) (.ref x)), (x, instObj 690 dx), (dx, lexObj w y f ?zq2 st _), (f, instObj 569 df), (df, sioObj w z l _ _), (?zq2, listOf (List.toArray _) _)] _ ?n12 ?n22) ?mm2
        case n12 => tb_rel
        case n22 => tb_rel
        case mm2 =>
          intro LL
          exact hret1 _ _ _ _ _ _ _ _ _ (by rw [List.length_map]; omega) (by assumption) (by assumption) (by omega) (by omega) (by omega) (LL.2.last (by k_mem)) (LL.2.last (by k_mem)) (LL.2.last (by k_mem)) (by assumption) LL.1
    | cons c r =>
      have hc : c < 128 := hasc c (by rw [hrem]; simp)
      cases hac : al c with
      | false =>
        have hb : Txt.isalpha (tx (List.take 1 (c :: r))) = false := (isalpha_one c hc).trans hac
        obtain ⟨e1, e2⟩ := take_pred (pr := al) (b := c :: r) hal (by intro d hd; cases hd; exact hac)
        rw [← hrem] at e1 e2
        rw [e1, e2] at hret0 hret1
        k_steps
        · intro lift
          (try dsimp only)
          refine' lx_use (lift [(_, tupOf [.ref _, .ref _]), (_, tupOf [.str (Str.ofString "STRING") _, .str (tx (ps.map (·.1))) _]), (_, methodObj (.ref 673) (.ref x)), (x, instObj 690 dx), (dx, lexObj w y f ?zq3 st _), (f, instObj 569 df), (df, sioObj w z l _ _), (?zq3, listOf (List.toArray _) _)] _ ?n13 ?n23) ?mm3
          case n13 => tb_rel
          case n23 => tb_rel
          case mm3 =>
            intro LL
            exact hret0 _ _ _ _ _ _ _ _ _ _ _ _ (by rw [List.length_map]; assumption) (by assumption) (by assumption) (by omega) (by omega) (by omega) (by omega) (LL.2.last (by k_mem)) (LL.2.last (by k_mem)) (LL.2.last (by k_mem)) (LL.2.last (by k_mem)) (by assumption) LL.1
        · intro lift
          (try dsimp only)
          refine' lx_use (lift [(_, tupOf [.none, .ref _]), (_, methodObj (.ref 673) (.ref x)), (x, instObj 690 dx), (dx, lexObj w y f ?zq4 st _), (f, instObj 569 df), (df, sioObj w z l _ _), (?zq4, listOf (List.toArray _) _)] _ ?n14 ?n24) ?mm4
          case n14 => tb_rel
          case n24 => tb_rel
          case mm4 =>
            intro LL
            exact hret1 _ _ _ _ _ _ _ _ _ (by rw [List.length_map]; omega) (by assumption) (by assumption) (by omega) (by omega) (by omega) (LL.2.last (by k_mem)) (LL.2.last (by k_mem)) (LL.2.last (by k_mem)) (by assumption) LL.1
      | true =>
        have hb : Txt.isalpha (tx (List.take 1 (c :: r))) = true := (isalpha_one c hc).trans hac
        have hq2 : QRem [] l pos' r := .nil hd2
        k_steps
        rename Fr _ _ _ _ => F3
        rename News _ _ _ _ => N3
        refine ⟨r.length, Nat.lt_succ_self _, ps ++ [(c, tc)], r, _, _, _, _, _, _, _, rfl, rfl, Fr.again F3, N3, by assumption, by assumption, ?_, ?_⟩
        · rw [hrem, List.map_append, List.append_assoc]; rfl
        · intro d hd
          rw [List.map_append] at hd
          rcases List.mem_append.mp hd with hd | hd
          · exact hal d hd
          · rw [List.mem_singleton.mp hd]; exact hac
theorem lexAlpha_u {prog : Program} {w : World} {p : Program} {loose : List Str} {mean : ExcName → Option Value} {mg mb : Str → Option Value}
    {dp un : Nat} {gd : Option (List Code)} {cn : Str} {cs : Scope} {a : Addr} {ccd : Value} {cl : List (Str × Addr)} {outer : List Env} {A₀ : Around} {base h₀ : Heap} {L : Addr} {m : Str → Option Value} {s : Shared} {Q E : Value → Shared → Prop}
    {x dx f df q cq : Nat} {y : LexT} {st : Value} {z : SioT} {tp : Tok} {l rem : List Nat} {qs : List Value} {pos : Nat} {la ld : Int} {pre post : List (Addr × Obj)}
    (B : Below A₀ base outer h₀) (F : Fr h₀ L s.heap m) (X : (hd.heap_39 w.params).In h₀)
    (N : News h₀ L s.heap (pre ++ ([(x, instObj 690 dx), (dx, lexObj w y f q st false), (f, instObj 569 df), (df, sioObj w z l (pos) tp), (q, listOf qs.toArray cq)] ++ post)))
    (Tp : Top p loose mean mg mb h₀) (hcs : cs.kind = .function) (hdp : dp + 8 < recursionLimit) (hun : un + 100 < cLine)
    (hoff : LxOff [(x, instObj 690 dx), (dx, lexObj w y f q st false), (f, instObj 569 df), (df, sioObj w z l (pos) tp), (q, listOf qs.toArray cq)] (pre ++ post)) (hside : dx < x ∧ x < df ∧ df < f ∧ f < q ∧ MoreOk y.more ∧ (tx l).length ≤ 1000 ∧ pos ≤ 1000 ∧ QRem qs l pos rem ∧ MoreIs w y.more la ld ∧ (∀ c ∈ rem, c < 128) ∧ rem.length ≤ 1000)
    (hret0 : ∀ (rt t2 ms q' : Nat) (qs' : List Value) pos' tp' cq' k1 k2 h' tk', la ≤ ((rem.takeWhile al).length : Int) → pos' ≤ 1000 → QRem qs' l pos' (rem.dropWhile al) → f < q' → q' < t2 → t2 < ms → ms < rt → AllNe q' (pre ++ post) → AllNe t2 (pre ++ post) → AllNe ms (pre ++ post) → AllNe rt (pre ++ post) → Fr h₀ L h' m → News h₀ L h' (pre ++ ([(rt, tupOf [.ref t2, .ref ms]), (t2, tupOf [.str (Str.ofString "STRING") k1, .str (tx (rem.takeWhile al)) k2]), (ms, methodObj (.ref 673) (.ref x)), (x, instObj 690 dx), (dx, lexObj w y f q' st (rem.dropWhile al).isEmpty), (f, instObj 569 df), (df, sioObj w z l (pos') tp'), (q', listOf qs'.toArray cq')] ++ post)) → Q (.ref rt) { s with heap := h', toks := tk' })
    (hret1 : ∀ (rt ms q' : Nat) (qs' : List Value) pos' tp' cq' h' tk', ((rem.takeWhile al).length : Int) < la → pos' ≤ 1000 → QRem qs' l pos' (rem.dropWhile al) → f < q' → q' < ms → ms < rt → AllNe q' (pre ++ post) → AllNe ms (pre ++ post) → AllNe rt (pre ++ post) → Fr h₀ L h' m → News h₀ L h' (pre ++ ([(rt, tupOf [.none, .ref ms]), (ms, methodObj (.ref 673) (.ref x)), (x, instObj 690 dx), (dx, lexObj w y f q' st (rem.dropWhile al).isEmpty), (f, instObj 569 df), (df, sioObj w z l (pos') tp'), (q', listOf qs'.toArray cq')] ++ post)) → Q (.ref rt) { s with heap := h', toks := tk' }) :
    wpAny (model prog w) (ktrTop dp un gd cn cs L a ccd cl outer) (call (.ref 687) [.ref x]) Q E s :=
  lx_call (lexAlpha_u_c B F X N Tp hcs hdp hun hoff hside hret0 hret1)
end
section
theorem reset9 : True := by
  w_top off
  trivial
/-! ### the lines (local) -/
local macro_rules | `(tactic| k_in) => `(tactic| first | with_reducible assumption | exact Frag.In.keeps (by with_reducible assumption) (Fr.keep (by with_reducible assumption)) | exact Frag.In.keeps (by with_reducible assumption) (Fr.keep (by k_asm)))
local macro_rules | `(tactic| k_room) => `(tactic| ktr_room)
/- entry into a def whose ledger is a part of the caller's -/
local macro_rules | `(tactic| ktr_enter) => `(tactic| (refine' code_lx ?k1 ?k2 ?k3 ?k4 ?kO ?k5 ?kA ?kF ?kK ?k6 ?k7 ?k8 ?k9 ?kB ?_ ?c2 ?c3 ?c4 ?c5; (case kA => exact rfl); (case kF => exact rfl); (case kK => first | exact rfl | assumption); (case k1 => k_asm); (case k2 => k_asm); (case k3 => k_asm); (case k4 => k_asm); (case kO => assumption); (case k5 => k_asm); (case k6 => k_is); (case k7 => k_is); (case k8 => k_room); (case k9 => first | exact BindsTo.of_eq rfl | exact binds_K (by k_in) rfl (by k_is) rfl rfl rfl | fail "k_enter: no rule for these arguments"); (case c5 => decide); (case kB => exact locs rfl); (case c2 => exact rfl); (case c3 => exact rfl); (case c4 => exact rfl); k_whole; intro g' L' h' FG' F' N' B' X' T' l1; (try k_lt l1); (try dsimp only); (try k_lift B'); (try k_fold)))
/- apartness -/
local macro_rules | `(tactic| ktr_rel) => `(tactic| first | assumption | ((try simp only [List.cons_append, List.nil_append, List.append_nil]); repeat (first | exact LxOff.nil | refine LxOff.cons (by k_all) ?_)))
/- a dict of six written entries and a tail -/
local macro_rules | `(tactic| k_get) => `(tactic| first
  | (refine' get6_hit ?hm ?h; (case hm => assumption); (case h => k_get))
  | (refine' get6_miss ?hm ?n1 ?n2 ?h; (case hm => assumption); (case n1 => decide +kernel); (case n2 => decide +kernel); (case h => k_get))
  | (refine' get6_is ?hm ?h ?h2; (case hm => assumption); (case h => k_get); (case h2 => (intro h9; exact absurd (h9.symm.trans (by k_get)) (by nofun)))))
local macro_rules | `(tactic| k_put) => `(tactic| (refine' put6 ?hm ?h; (case hm => assumption); (case h => k_put)))
local macro_rules | `(tactic| walk_at "setAttr ref") => `(tactic| (k_here; k_dflt ((refine' set_dict ?k1 ?k2 ?k3 ?k4 ?k5 ?k6 ?k7 ?k8 ?k9 ?k10 ?k11 ?k12 ?k13 ?_; (case k1 => k_asm); (case k2 => k_asm); (case k3 => k_asm); (case k4 => k_inst); (case k5 => exact rfl); (case k6 => k_is); (case k7 => k_is); (case k8 => k_is); (case k9 => k_is); (case k10 => k_get); (case k11 => k_put); (case k12 => k_upd); (case k13 => first | exact Nat.le_of_ble_eq_true rfl | (have h9 := MoreOk.len (by assumption); simp only [List.length_cons]; omega)); k_whole; intro h' F' N'; (try k_sweep)))))
local macro_rules | `(tactic| walk_at "call builtin:list.extend") => `(tactic| (k_here; (with_reducible show wpAny _ _ (call (Value.builtin _) [Value.ref _, Value.str _ _]) _ _ _); k_dflt (first
  | (refine' lx_extend0 ?hh ?F ?N ?D ?_; (case hh => exact rfl); (case F => k_asm); (case N => k_asm); (case D => k_mem); intro h' tk' F' N'; (try k_sweep))
  | (refine' lx_extend1 ?hh ?F ?N ?U ?_; (case hh => exact rfl); (case F => k_asm); (case N => k_asm); (case U => k_updF); intro h' tk' u' c' F' N'; (try dsimp only at N'); (try k_sweep)))))
local macro_rules | `(tactic| walk_at "call type:list") => `(tactic| (k_here; (with_reducible show wpAny _ _ (call (Value.type _) [Value.str _ _]) _ _ _); k_dflt (first
  | (refine' lx_list0 ?hh ?F ?N ?_; (case hh => exact rfl); (case F => k_asm); (case N => k_asm); intro p' h' tk' c' F' N' l1; (try k_lt l1); (try k_sweep))
  | (refine' lx_list1 ?hh ?F ?N ?_; (case hh => exact rfl); (case F => k_asm); (case N => k_asm); intro p' h' tk' u' c' F' N' l1; (try k_lt l1); (try k_sweep)))))
local macro_rules | `(tactic| tb_rel) => `(tactic| (refine' cb_drop ?cN ?cS; (case cN => assumption); (case cS => (repeat (first | exact List.forall_mem_nil _ | refine List.forall_mem_cons.mpr ⟨by k_mem, ?_⟩)))))
/- the call of a def by its contract: ktr_call CONTRACT PRE -/
local macro_rules | `(tactic| ktr_unf) => `(tactic| (intros; (with_reducible rename News _ _ _ _ => N9); (try simp only [List.cons_append, List.nil_append] at N9); (try dsimp only); (try k_fold); (try k_sweep)))
local macro_rules | `(tactic| tb_start) => `(tactic| ((repeat' apply And.intro) <;> first | assumption | omega | rfl))
local macro_rules | `(tactic| ktr_call $x:term $c:term) => `(tactic| (refine' $x (pre := $c) ?k1 ?k2 ?k3 ?k4 ?k5 ?kK ?kd ?ku ?kO ?kS ?_; (case k4 => k_asm); (case kS => tb_start); (case k1 => k_asm); (case k2 => k_asm); (case k3 => k_asm); (case k5 => k_asm); (case kK => first | exact rfl | assumption); (case kd => ktr_room); (case ku => ktr_units); (case kO => ktr_rel); ktr_unf))
local macro_rules | `(tactic| walk_at "exec While") => `(tactic| (k_here; k_dflt (refine whl_start 100 ?_)))
local macro_rules | `(tactic| walk_at "exec While BoolOp") => `(tactic| (k_here; k_dflt (refine whl_start 100 ?_)))
local macro_rules | `(tactic| walk_at "call ref") => `(tactic| (k_here; (with_reducible show wpAny _ _ (call (Value.ref 515) [Value.ref _, Value.int _ _] []) _ _ _); k_dflt (first
  | ktr_call sioRead_e [] | ktr_call sioRead_e [_] | ktr_call sioRead_e [_, _] | ktr_call sioRead_e [_, _, _] | ktr_call sioRead_e [_, _, _, _]
  | ktr_call sioRead_c [] | ktr_call sioRead_c [_] | ktr_call sioRead_c [_, _] | ktr_call sioRead_c [_, _, _] | ktr_call sioRead_c [_, _, _, _]
  | ktr_call sioRead_0 [] | ktr_call sioRead_0 [_] | ktr_call sioRead_0 [_, _] | ktr_call sioRead_0 [_, _, _] | ktr_call sioRead_0 [_, _, _, _]
  | ktr_call sioRead [] | ktr_call sioRead [_] | ktr_call sioRead [_, _] | ktr_call sioRead [_, _, _] | ktr_call sioRead [_, _, _, _])))
/- a while is held; the contracts of read, peek, pushback -/
local macro_rules | `(tactic| walk_at "exec While") => `(tactic| (k_here; refine lx_hold ?_))
local macro_rules | `(tactic| walk_at "exec While BoolOp") => `(tactic| (k_here; refine lx_hold ?_))
local macro_rules | `(tactic| ktr_unf) => `(tactic| (intros; (try ((with_reducible rename AllNe _ _ => O9); simp only [List.cons_append, List.nil_append, AllNe, and_true] at O9)); (with_reducible rename News _ _ _ _ => N9); (try simp only [List.cons_append, List.nil_append] at N9); (try dsimp only); (try k_fold); (try k_sweep)))
local macro_rules | `(tactic| walk_at "call ref") => `(tactic| (k_here; (with_reducible show wpAny _ _ (call (Value.ref 616) [Value.ref _, Value.int _ _] []) _ _ _); k_dflt (first
  | ktr_call lexRead_u [] | ktr_call lexRead_u [_] | ktr_call lexRead_u [_, _] | ktr_call lexRead_u [_, _, _] | ktr_call lexRead_u [_, _, _, _])))
local macro_rules | `(tactic| walk_at "call ref") => `(tactic| (k_here; (with_reducible show wpAny _ _ (call (Value.ref 624) [Value.ref _, Value.int _ _] []) _ _ _); k_dflt (first
  | ktr_call lexPeek_u [] | ktr_call lexPeek_u [_] | ktr_call lexPeek_u [_, _] | ktr_call lexPeek_u [_, _, _] | ktr_call lexPeek_u [_, _, _, _])))
local macro_rules | `(tactic| walk_at "call ref") => `(tactic| (k_here; (with_reducible show wpAny _ _ (call (Value.ref 631) [Value.ref _, Value.str _ _] []) _ _ _); k_dflt (first
  | ktr_call lexPush_u [] | ktr_call lexPush_u [_] | ktr_call lexPush_u [_, _] | ktr_call lexPush_u [_, _, _] | ktr_call lexPush_u [_, _, _, _])))
local macro_rules | `(tactic| walk_at "call builtin:str.join") => `(tactic| (k_here; (with_reducible show wpAny _ _ (call (Value.builtin _) [Value.str _ _, Value.ref _]) _ _ _); k_dflt (refine' lx_join ?N ?D ?l ?_; (case N => k_asm); (case D => k_mem); (case l => first | assumption | omega)); intro t' k' hl'))
local macro_rules | `(tactic| walk_at "getAttr ref") => `(tactic| (k_here; (with_reducible show wpAny _ _ (getAttr (Value.ref _) (PySem.Str.ofString "minalpha") _) _ _ _); k_dflt (refine' lx_minalpha ?F ?X ?N ?x ?d ?m ?_; (case F => k_asm); (case X => k_in); (case N => k_asm); (case x => k_mem); (case d => k_mem); (case m => assumption); intro t')))
local macro_rules | `(tactic| walk_at "getAttr ref") => `(tactic| (k_here; (with_reducible show wpAny _ _ (getAttr (Value.ref _) (PySem.Str.ofString "mindigits") _) _ _ _); k_dflt (refine' lx_mindigits ?F ?X ?N ?x ?d ?m ?_; (case F => k_asm); (case X => k_in); (case N => k_asm); (case x => k_mem); (case d => k_mem); (case m => assumption); intro t')))
local macro_rules | `(tactic| walk_at "WhlIf") => `(tactic| (first | (refine WhlIf.yes (by assumption) ?_) | (refine WhlIf.no (by assumption) ?_)))
local macro_rules | `(tactic| walk_at "call builtin:list.append") => `(tactic| (k_here; (with_reducible show wpAny _ _ (call (Value.builtin _) [Value.ref _, Value.str _ _]) _ _ _); k_dflt (refine' lx_append ?F ?N ?l ?U ?_; (case F => k_asm); (case N => k_asm); (case U => k_upd); (case l => assumption); intro h' F' N'; (try k_sweep))))
local macro_rules | `(tactic| walk_at "call builtin:len") => `(tactic| (k_here; (with_reducible show wpAny _ _ (call (Value.builtin "len") [Value.ref _]) _ _ _); k_dflt (refine' lx_len ?N ?D ?l ?_; (case N => k_asm); (case D => k_mem); (case l => assumption); intro t' tk')))
/-! ### lexDigits -/
theorem lexDigits_u_c {prog : Program} {w : World} {p : Program} {loose : List Str} {mean : ExcName → Option Value} {mg mb : Str → Option Value}
    {dp un : Nat} {gd : Option (List Code)} {cn : Str} {cs : Scope} {a : Addr} {ccd : Value} {cl : List (Str × Addr)} {outer : List Env} {A₀ : Around} {base h₀ : Heap} {L : Addr} {m : Str → Option Value} {s : Shared} {Q E : Value → Shared → Prop}
    {x dx f df q cq : Nat} {y : LexT} {st : Value} {z : SioT} {tp : Tok} {l rem : List Nat} {qs : List Value} {pos : Nat} {la ld : Int} {pre post : List (Addr × Obj)}
    (B : Below A₀ base outer h₀) (F : Fr h₀ L s.heap m) (X : (hd.heap_39 w.params).In h₀)
    (N : News h₀ L s.heap (pre ++ ([(x, instObj 690 dx), (dx, lexObj w y f q st false), (f, instObj 569 df), (df, sioObj w z l (pos) tp), (q, listOf qs.toArray cq)] ++ post)))
    (Tp : Top p loose mean mg mb h₀) (hcs : cs.kind = .function) (hdp : dp + 8 < recursionLimit) (hun : un + 100 < cLine)
    (hoff : LxOff [(x, instObj 690 dx), (dx, lexObj w y f q st false), (f, instObj 569 df), (df, sioObj w z l (pos) tp), (q, listOf qs.toArray cq)] (pre ++ post)) (hside : dx < x ∧ x < df ∧ df < f ∧ f < q ∧ MoreOk y.more ∧ (tx l).length ≤ 1000 ∧ pos ≤ 1000 ∧ QRem qs l pos rem ∧ MoreIs w y.more la ld ∧ (∀ c ∈ rem, c < 128) ∧ rem.length ≤ 1000)
    (hret0 : ∀ (rt t2 ms q' : Nat) (qs' : List Value) pos' tp' cq' k1 k2 h' tk', ld ≤ ((rem.takeWhile dg).length : Int) → pos' ≤ 1000 → QRem qs' l pos' (rem.dropWhile dg) → f < q' → q' < t2 → t2 < ms → ms < rt → AllNe q' (pre ++ post) → AllNe t2 (pre ++ post) → AllNe ms (pre ++ post) → AllNe rt (pre ++ post) → Fr h₀ L h' m → News h₀ L h' (pre ++ ([(rt, tupOf [.ref t2, .ref ms]), (t2, tupOf [.str (Str.ofString "NUMBER") k1, .str (tx (rem.takeWhile dg)) k2]), (ms, methodObj (.ref 673) (.ref x)), (x, instObj 690 dx), (dx, lexObj w y f q' st (rem.dropWhile dg).isEmpty), (f, instObj 569 df), (df, sioObj w z l (pos') tp'), (q', listOf qs'.toArray cq')] ++ post)) → Q (.ref rt) { s with heap := h', toks := tk' })
    (hret1 : ∀ (rt ms q' : Nat) (qs' : List Value) pos' tp' cq' h' tk', ((rem.takeWhile dg).length : Int) < ld → pos' ≤ 1000 → QRem qs' l pos' (rem.dropWhile dg) → f < q' → q' < ms → ms < rt → AllNe q' (pre ++ post) → AllNe ms (pre ++ post) → AllNe rt (pre ++ post) → Fr h₀ L h' m → News h₀ L h' (pre ++ ([(rt, tupOf [.none, .ref ms]), (ms, methodObj (.ref 673) (.ref x)), (x, instObj 690 dx), (dx, lexObj w y f q' st (rem.dropWhile dg).isEmpty), (f, instObj 569 df), (df, sioObj w z l (pos') tp'), (q', listOf qs'.toArray cq')] ++ post)) → Q (.ref rt) { s with heap := h', toks := tk' }) :
    codeAny (model prog w) (ktrTop dp un gd cn cs L a ccd cl outer) (.call (.ref 680) ⟨[.ref x], []⟩) (LxR Q E) s := by
  obtain ⟨h1, h2, h3, h4, hm, hT, hpos, hq, hmi, hasc, hrl⟩ := hside
  k_dflt ktr_enter
  k_steps
  refine LxHold.out ?_
  k_dflt (refine' lx_while (AlphaI _ _ _ _ _ _ _ _ _ _ _ _ _ _ _ _ dg) _ (alphaI_start ?xF ?xN ?xp ?xd) ?turn ?hE)
  case xF => k_asm
  case xN => k_asm
  case xp => assumption
  case xd => assumption
  case hE => first | passes_own | with_unfolding_all passes_own
  case turn =>
    intro n s' hI
    obtain ⟨ps, rem', tc, pos', tp', cq', ns, h, tk, hn, rfl, F2, N2, hp2, hd2, hrem, hal⟩ := hI
    subst hn
    have hpl : ps.length ≤ 1000 := by
      have := congrArg List.length hrem
      simp only [List.length_append, List.length_map] at this
      omega
    cases rem' with
    | nil =>
      have hb : Txt.isdigit (tx (List.take 1 [])) = false := isdigit_nil
      obtain ⟨e1, e2⟩ := take_pred (pr := dg) (b := []) hal (by simp)
      rw [← hrem] at e1 e2
      rw [e1, e2] at hret0 hret1
      k_steps
      · intro lift
        (try dsimp only)
        refine' lx_use (lift [(_, tupOf [.ref _, .ref _]), (_, tupOf [.str (Str.ofString "NUMBER") _, .str (tx (ps.map (·.1))) _]), (_, methodObj (.ref 673) (.ref x)), (x, instObj 690 dx), (dx, lexObj w y f ?zq1 st _), (f, instObj 569 df), (df, sioObj w z l _ _), (?zq1, listOf (List.toArray _) _)] _ ?n11 ?n21) ?mm1
        case n11 => tb_rel
        case n21 => tb_rel
        case mm1 =>
          intro LL
          exact hret0 _ _ _ _ _ _ _ _ _ _ _ _ (by rw [List.length_map]; assumption) (by assumption) (by assumption) (by omega) (by omega) (by omega) (by omega) (LL.2.last (by k_mem)) (LL.2.last (by k_mem)) (LL.2.last (by k_mem)) (LL.2.last (by k_mem)) (by assumption) LL.1
      · intro lift
        (try dsimp only)
        refine' lx_use (lift [(_, tupOf [.none, .ref _]), (_, methodObj (.ref 673) (.ref x)), (x, instObj 690 dx), (dx, lexObj w y f ?zq2 st _), (f, instObj 569 df), (df, sioObj w z l _ _), (?zq2, listOf (List.toArray _) _)] _ ?n12 ?n22) ?mm2
        case n12 => tb_rel
        case n22 => tb_rel
        case mm2 =>
          intro LL
          exact hret1 _ _ _ _ _ _ _ _ _ (by rw [List.length_map]; omega) (by assumption) (by assumption) (by omega) (by omega) (by omega) (LL.2.last (by k_mem)) (LL.2.last (by k_mem)) (LL.2.last (by k_mem)) (by assumption) LL.1
    | cons c r =>
      have hc : c < 128 := hasc c (by rw [hrem]; simp)
      cases hac : dg c with
      | false =>
        have hb : Txt.isdigit (tx (List.take 1 (c :: r))) = false := (isdigit_one c hc).trans hac
        obtain ⟨e1, e2⟩ := take_pred (pr := dg) (b := c :: r) hal (by intro d hd; cases hd; exact hac)
        rw [← hrem] at e1 e2
        rw [e1, e2] at hret0 hret1
        k_steps
        · intro lift
          (try dsimp only)
          refine' lx_use (lift [(_, tupOf [.ref _, .ref _]), (_, tupOf [.str (Str.ofString "NUMBER") _, .str (tx (ps.map (·.1))) _]), (_, methodObj (.ref 673) (.ref x)), (x, instObj 690 dx), (dx, lexObj w y f ?zq3 st _), (f, instObj 569 df), (df, sioObj w z l _ _), (?zq3, listOf (List.toArray _) _)] _ ?n13 ?n23) ?mm3
          case n13 => tb_rel
          case n23 => tb_rel
          case mm3 =>
            intro LL
            exact hret0 _ _ _ _ _ _ _ _ _ _ _ _ (by rw [List.length_map]; assumption) (by assumption) (by assumption) (by omega) (by omega) (by omega) (by omega) (LL.2.last (by k_mem)) (LL.2.last (by k_mem)) (LL.2.last (by k_mem)) (LL.2.last (by k_mem)) (by assumption) LL.1
        · intro lift
          (try dsimp only)
          refine' lx_use (lift [(_, tupOf [.none, .ref _]), (_, methodObj (.ref 673) (.ref x)), (x, instObj 690 dx), (dx, lexObj w y f ?zq4 st _), (f, instObj 569 df), (df, sioObj w z l _ _), (?zq4, listOf (List.toArray _) _)] _ ?n14 ?n24) ?mm4
          case n14 => tb_rel
          case n24 => tb_rel
          case mm4 =>
            intro LL
            exact hret1 _ _ _ _ _ _ _ _ _ (by rw [List.length_map]; omega) (by assumption) (by assumption) (by omega) (by omega) (by omega) (LL.2.last (by k_mem)) (LL.2.last (by k_mem)) (LL.2.last (by k_mem)) (by assumption) LL.1
      | true =>
        have hb : Txt.isdigit (tx (List.take 1 (c :: r))) = true := (isdigit_one c hc).trans hac
        have hq2 : QRem [] l pos' r := .nil hd2
        k_steps
        rename Fr _ _ _ _ => F3
        rename News _ _ _ _ => N3
        refine ⟨r.length, Nat.lt_succ_self _, ps ++ [(c, tc)], r, _, _, _, _, _, _, _, rfl, rfl, Fr.again F3, N3, by assumption, by assumption, ?_, ?_⟩
        · rw [hrem, List.map_append, List.append_assoc]; rfl
        · intro d hd
          rw [List.map_append] at hd
          rcases List.mem_append.mp hd with hd | hd
          · exact hal d hd
          · rw [List.mem_singleton.mp hd]; exact hac
theorem lexDigits_u {prog : Program} {w : World} {p : Program} {loose : List Str} {mean : ExcName → Option Value} {mg mb : Str → Option Value}
    {dp un : Nat} {gd : Option (List Code)} {cn : Str} {cs : Scope} {a : Addr} {ccd : Value} {cl : List (Str × Addr)} {outer : List Env} {A₀ : Around} {base h₀ : Heap} {L : Addr} {m : Str → Option Value} {s : Shared} {Q E : Value → Shared → Prop}
    {x dx f df q cq : Nat} {y : LexT} {st : Value} {z : SioT} {tp : Tok} {l rem : List Nat} {qs : List Value} {pos : Nat} {la ld : Int} {pre post : List (Addr × Obj)}
    (B : Below A₀ base outer h₀) (F : Fr h₀ L s.heap m) (X : (hd.heap_39 w.params).In h₀)
    (N : News h₀ L s.heap (pre ++ ([(x, instObj 690 dx), (dx, lexObj w y f q st false), (f, instObj 569 df), (df, sioObj w z l (pos) tp), (q, listOf qs.toArray cq)] ++ post)))
    (Tp : Top p loose mean mg mb h₀) (hcs : cs.kind = .function) (hdp : dp + 8 < recursionLimit) (hun : un + 100 < cLine)
    (hoff : LxOff [(x, instObj 690 dx), (dx, lexObj w y f q st false), (f, instObj 569 df), (df, sioObj w z l (pos) tp), (q, listOf qs.toArray cq)] (pre ++ post)) (hside : dx < x ∧ x < df ∧ df < f ∧ f < q ∧ MoreOk y.more ∧ (tx l).length ≤ 1000 ∧ pos ≤ 1000 ∧ QRem qs l pos rem ∧ MoreIs w y.more la ld ∧ (∀ c ∈ rem, c < 128) ∧ rem.length ≤ 1000)
    (hret0 : ∀ (rt t2 ms q' : Nat) (qs' : List Value) pos' tp' cq' k1 k2 h' tk', ld ≤ ((rem.takeWhile dg).length : Int) → pos' ≤ 1000 → QRem qs' l pos' (rem.dropWhile dg) → f < q' → q' < t2 → t2 < ms → ms < rt → AllNe q' (pre ++ post) → AllNe t2 (pre ++ post) → AllNe ms (pre ++ post) → AllNe rt (pre ++ post) → Fr h₀ L h' m → News h₀ L h' (pre ++ ([(rt, tupOf [.ref t2, .ref ms]), (t2, tupOf [.str (Str.ofString "NUMBER") k1, .str (tx (rem.takeWhile dg)) k2]), (ms, methodObj (.ref 673) (.ref x)), (x, instObj 690 dx), (dx, lexObj w y f q' st (rem.dropWhile dg).isEmpty), (f, instObj 569 df), (df, sioObj w z l (pos') tp'), (q', listOf qs'.toArray cq')] ++ post)) → Q (.ref rt) { s with heap := h', toks := tk' })
    (hret1 : ∀ (rt ms q' : Nat) (qs' : List Value) pos' tp' cq' h' tk', ((rem.takeWhile dg).length : Int) < ld → pos' ≤ 1000 → QRem qs' l pos' (rem.dropWhile dg) → f < q' → q' < ms → ms < rt → AllNe q' (pre ++ post) → AllNe ms (pre ++ post) → AllNe rt (pre ++ post) → Fr h₀ L h' m → News h₀ L h' (pre ++ ([(rt, tupOf [.none, .ref ms]), (ms, methodObj (.ref 673) (.ref x)), (x, instObj 690 dx), (dx, lexObj w y f q' st (rem.dropWhile dg).isEmpty), (f, instObj 569 df), (df, sioObj w z l (pos') tp'), (q', listOf qs'.toArray cq')] ++ post)) → Q (.ref rt) { s with heap := h', toks := tk' }) :
    wpAny (model prog w) (ktrTop dp un gd cn cs L a ccd cl outer) (call (.ref 680) [.ref x]) Q E s :=
  lx_call (lexDigits_u_c B F X N Tp hcs hdp hun hoff hside hret0 hret1)
end
section
theorem reset10 : True := by
  w_top off
  trivial
/-! ### the lines (local) -/
local macro_rules | `(tactic| k_in) => `(tactic| first | with_reducible assumption | exact Frag.In.keeps (by with_reducible assumption) (Fr.keep (by with_reducible assumption)) | exact Frag.In.keeps (by with_reducible assumption) (Fr.keep (by k_asm)))
local macro_rules | `(tactic| k_room) => `(tactic| ktr_room)
/- entry into a def whose ledger is a part of the caller's -/
local macro_rules | `(tactic| ktr_enter) => `(tactic| (refine' code_lx ?k1 ?k2 ?k3 ?k4 ?kO ?k5 ?kA ?kF ?kK ?k6 ?k7 ?k8 ?k9 ?kB ?_ ?c2 ?c3 ?c4 ?c5; (case kA => exact rfl); (case kF => exact rfl); (case kK => first | exact rfl | assumption); (case k1 => k_asm); (case k2 => k_asm); (case k3 => k_asm); (case k4 => k_asm); (case kO => assumption); (case k5 => k_asm); (case k6 => k_is); (case k7 => k_is); (case k8 => k_room); (case k9 => first | exact BindsTo.of_eq rfl | exact binds_K (by k_in) rfl (by k_is) rfl rfl rfl | fail "k_enter: no rule for these arguments"); (case c5 => decide); (case kB => exact locs rfl); (case c2 => exact rfl); (case c3 => exact rfl); (case c4 => exact rfl); k_whole; intro g' L' h' FG' F' N' B' X' T' l1; (try k_lt l1); (try dsimp only); (try k_lift B'); (try k_fold)))
/- apartness -/
local macro_rules | `(tactic| ktr_rel) => `(tactic| first | assumption | ((try simp only [List.cons_append, List.nil_append, List.append_nil]); repeat (first | exact LxOff.nil | refine LxOff.cons (by k_all) ?_)))
/- a dict of six written entries and a tail -/
local macro_rules | `(tactic| k_get) => `(tactic| first
  | (refine' get6_hit ?hm ?h; (case hm => assumption); (case h => k_get))
  | (refine' get6_miss ?hm ?n1 ?n2 ?h; (case hm => assumption); (case n1 => decide +kernel); (case n2 => decide +kernel); (case h => k_get))
  | (refine' get6_is ?hm ?h ?h2; (case hm => assumption); (case h => k_get); (case h2 => (intro h9; exact absurd (h9.symm.trans (by k_get)) (by nofun)))))
local macro_rules | `(tactic| k_put) => `(tactic| (refine' put6 ?hm ?h; (case hm => assumption); (case h => k_put)))
local macro_rules | `(tactic| walk_at "setAttr ref") => `(tactic| (k_here; k_dflt ((refine' set_dict ?k1 ?k2 ?k3 ?k4 ?k5 ?k6 ?k7 ?k8 ?k9 ?k10 ?k11 ?k12 ?k13 ?_; (case k1 => k_asm); (case k2 => k_asm); (case k3 => k_asm); (case k4 => k_inst); (case k5 => exact rfl); (case k6 => k_is); (case k7 => k_is); (case k8 => k_is); (case k9 => k_is); (case k10 => k_get); (case k11 => k_put); (case k12 => k_upd); (case k13 => first | exact Nat.le_of_ble_eq_true rfl | (have h9 := MoreOk.len (by assumption); simp only [List.length_cons]; omega)); k_whole; intro h' F' N'; (try k_sweep)))))
local macro_rules | `(tactic| walk_at "call builtin:list.extend") => `(tactic| (k_here; (with_reducible show wpAny _ _ (call (Value.builtin _) [Value.ref _, Value.str _ _]) _ _ _); k_dflt (first
  | (refine' lx_extend0 ?hh ?F ?N ?D ?_; (case hh => exact rfl); (case F => k_asm); (case N => k_asm); (case D => k_mem); intro h' tk' F' N'; (try k_sweep))
  | (refine' lx_extend1 ?hh ?F ?N ?U ?_; (case hh => exact rfl); (case F => k_asm); (case N => k_asm); (case U => k_updF); intro h' tk' u' c' F' N'; (try dsimp only at N'); (try k_sweep)))))
local macro_rules | `(tactic| walk_at "call type:list") => `(tactic| (k_here; (with_reducible show wpAny _ _ (call (Value.type _) [Value.str _ _]) _ _ _); k_dflt (first
  | (refine' lx_list0 ?hh ?F ?N ?_; (case hh => exact rfl); (case F => k_asm); (case N => k_asm); intro p' h' tk' c' F' N' l1; (try k_lt l1); (try k_sweep))
  | (refine' lx_list1 ?hh ?F ?N ?_; (case hh => exact rfl); (case F => k_asm); (case N => k_asm); intro p' h' tk' u' c' F' N' l1; (try k_lt l1); (try k_sweep)))))
local macro_rules | `(tactic| tb_rel) => `(tactic| (refine' cb_drop ?cN ?cS; (case cN => assumption); (case cS => (repeat (first | exact List.forall_mem_nil _ | refine List.forall_mem_cons.mpr ⟨by k_mem, ?_⟩)))))
/- the call of a def by its contract: ktr_call CONTRACT PRE -/
local macro_rules | `(tactic| ktr_unf) => `(tactic| (intros; (with_reducible rename News _ _ _ _ => N9); (try simp only [List.cons_append, List.nil_append] at N9); (try dsimp only); (try k_fold); (try k_sweep)))
local macro_rules | `(tactic| tb_start) => `(tactic| ((repeat' apply And.intro) <;> first | assumption | omega | rfl))
local macro_rules | `(tactic| ktr_call $x:term $c:term) => `(tactic| (refine' $x (pre := $c) ?k1 ?k2 ?k3 ?k4 ?k5 ?kK ?kd ?ku ?kO ?kS ?_; (case k4 => k_asm); (case kS => tb_start); (case k1 => k_asm); (case k2 => k_asm); (case k3 => k_asm); (case k5 => k_asm); (case kK => first | exact rfl | assumption); (case kd => ktr_room); (case ku => ktr_units); (case kO => ktr_rel); ktr_unf))
local macro_rules | `(tactic| walk_at "exec While") => `(tactic| (k_here; k_dflt (refine whl_start 100 ?_)))
local macro_rules | `(tactic| walk_at "exec While BoolOp") => `(tactic| (k_here; k_dflt (refine whl_start 100 ?_)))
local macro_rules | `(tactic| walk_at "call ref") => `(tactic| (k_here; (with_reducible show wpAny _ _ (call (Value.ref 515) [Value.ref _, Value.int _ _] []) _ _ _); k_dflt (first
  | ktr_call sioRead_e [] | ktr_call sioRead_e [_] | ktr_call sioRead_e [_, _] | ktr_call sioRead_e [_, _, _] | ktr_call sioRead_e [_, _, _, _]
  | ktr_call sioRead_c [] | ktr_call sioRead_c [_] | ktr_call sioRead_c [_, _] | ktr_call sioRead_c [_, _, _] | ktr_call sioRead_c [_, _, _, _]
  | ktr_call sioRead_0 [] | ktr_call sioRead_0 [_] | ktr_call sioRead_0 [_, _] | ktr_call sioRead_0 [_, _, _] | ktr_call sioRead_0 [_, _, _, _]
  | ktr_call sioRead [] | ktr_call sioRead [_] | ktr_call sioRead [_, _] | ktr_call sioRead [_, _, _] | ktr_call sioRead [_, _, _, _])))
/- a while is held; the contracts of read, peek, pushback -/
local macro_rules | `(tactic| walk_at "exec While") => `(tactic| (k_here; refine lx_hold ?_))
local macro_rules | `(tactic| walk_at "exec While BoolOp") => `(tactic| (k_here; refine lx_hold ?_))
local macro_rules | `(tactic| ktr_unf) => `(tactic| (intros; (try ((with_reducible rename AllNe _ _ => O9); simp only [List.cons_append, List.nil_append, AllNe, and_true] at O9)); (with_reducible rename News _ _ _ _ => N9); (try simp only [List.cons_append, List.nil_append] at N9); (try dsimp only); (try k_fold); (try k_sweep)))
local macro_rules | `(tactic| walk_at "call ref") => `(tactic| (k_here; (with_reducible show wpAny _ _ (call (Value.ref 616) [Value.ref _, Value.int _ _] []) _ _ _); k_dflt (first
  | ktr_call lexRead_u [] | ktr_call lexRead_u [_] | ktr_call lexRead_u [_, _] | ktr_call lexRead_u [_, _, _] | ktr_call lexRead_u [_, _, _, _])))
local macro_rules | `(tactic| walk_at "call ref") => `(tactic| (k_here; (with_reducible show wpAny _ _ (call (Value.ref 624) [Value.ref _, Value.int _ _] []) _ _ _); k_dflt (first
  | ktr_call lexPeek_u [] | ktr_call lexPeek_u [_] | ktr_call lexPeek_u [_, _] | ktr_call lexPeek_u [_, _, _] | ktr_call lexPeek_u [_, _, _, _])))
local macro_rules | `(tactic| walk_at "call ref") => `(tactic| (k_here; (with_reducible show wpAny _ _ (call (Value.ref 631) [Value.ref _, Value.str _ _] []) _ _ _); k_dflt (first
  | ktr_call lexPush_u [] | ktr_call lexPush_u [_] | ktr_call lexPush_u [_, _] | ktr_call lexPush_u [_, _, _] | ktr_call lexPush_u [_, _, _, _])))
local macro_rules | `(tactic| walk_at "call builtin:str.join") => `(tactic| (k_here; (with_reducible show wpAny _ _ (call (Value.builtin _) [Value.str _ _, Value.ref _]) _ _ _); k_dflt (refine' lx_join ?N ?D ?l ?_; (case N => k_asm); (case D => k_mem); (case l => first | assumption | omega)); intro t' k' hl'))
local macro_rules | `(tactic| walk_at "getAttr ref") => `(tactic| (k_here; (with_reducible show wpAny _ _ (getAttr (Value.ref _) (PySem.Str.ofString "minalpha") _) _ _ _); k_dflt (refine' lx_minalpha ?F ?X ?N ?x ?d ?m ?_; (case F => k_asm); (case X => k_in); (case N => k_asm); (case x => k_mem); (case d => k_mem); (case m => assumption); intro t')))
local macro_rules | `(tactic| walk_at "getAttr ref") => `(tactic| (k_here; (with_reducible show wpAny _ _ (getAttr (Value.ref _) (PySem.Str.ofString "mindigits") _) _ _ _); k_dflt (refine' lx_mindigits ?F ?X ?N ?x ?d ?m ?_; (case F => k_asm); (case X => k_in); (case N => k_asm); (case x => k_mem); (case d => k_mem); (case m => assumption); intro t')))
local macro_rules | `(tactic| walk_at "WhlIf") => `(tactic| (first | (refine WhlIf.yes (by assumption) ?_) | (refine WhlIf.no (by assumption) ?_)))
local macro_rules | `(tactic| walk_at "call builtin:list.append") => `(tactic| (k_here; (with_reducible show wpAny _ _ (call (Value.builtin _) [Value.ref _, Value.str _ _]) _ _ _); k_dflt (refine' lx_append ?F ?N ?l ?U ?_; (case F => k_asm); (case N => k_asm); (case U => k_upd); (case l => assumption); intro h' F' N'; (try k_sweep))))
local macro_rules | `(tactic| walk_at "call builtin:len") => `(tactic| (k_here; (with_reducible show wpAny _ _ (call (Value.builtin "len") [Value.ref _]) _ _ _); k_dflt (refine' lx_len ?N ?D ?l ?_; (case N => k_asm); (case D => k_mem); (case l => assumption); intro t' tk')))
/-! ### lexRandom -/
theorem lexRandom_u_c {prog : Program} {w : World} {p : Program} {loose : List Str} {mean : ExcName → Option Value} {mg mb : Str → Option Value}
    {dp un : Nat} {gd : Option (List Code)} {cn : Str} {cs : Scope} {a : Addr} {ccd : Value} {cl : List (Str × Addr)} {outer : List Env} {A₀ : Around} {base h₀ : Heap} {L : Addr} {m : Str → Option Value} {s : Shared} {Q E : Value → Shared → Prop}
    {x dx f df q cq : Nat} {y : LexT} {st : Value} {z : SioT} {tp : Tok} {l rem : List Nat} {qs : List Value} {pos : Nat} {la ld : Int} {pre post : List (Addr × Obj)}
    (B : Below A₀ base outer h₀) (F : Fr h₀ L s.heap m) (X : (hd.heap_39 w.params).In h₀)
    (N : News h₀ L s.heap (pre ++ ([(x, instObj 690 dx), (dx, lexObj w y f q st false), (f, instObj 569 df), (df, sioObj w z l (pos) tp), (q, listOf qs.toArray cq)] ++ post)))
    (Tp : Top p loose mean mg mb h₀) (hcs : cs.kind = .function) (hdp : dp + 8 < recursionLimit) (hun : un + 100 < cLine)
    (hoff : LxOff [(x, instObj 690 dx), (dx, lexObj w y f q st false), (f, instObj 569 df), (df, sioObj w z l (pos) tp), (q, listOf qs.toArray cq)] (pre ++ post)) (hside : dx < x ∧ x < df ∧ df < f ∧ f < q ∧ MoreOk y.more ∧ (tx l).length ≤ 1000 ∧ pos ≤ 1000 ∧ QRem qs l pos rem ∧ MoreIs w y.more la ld ∧ (∀ c ∈ rem, c < 128) ∧ rem.length ≤ 1000)
    (hret0 : ∀ (rt ms : Nat) (qs' : List Value) (c : Nat) (r : List Nat) pos' tp' cq' h' tk', rem.dropWhile other = c :: r → al c = true → pos' ≤ 1000 → QRem qs' l pos' (c :: r) → q < ms → ms < rt → AllNe ms (pre ++ post) → AllNe rt (pre ++ post) → Fr h₀ L h' m → News h₀ L h' (pre ++ ([(rt, tupOf [.none, .ref ms]), (ms, methodObj (.ref 687) (.ref x)), (x, instObj 690 dx), (dx, lexObj w y f q st false), (f, instObj 569 df), (df, sioObj w z l (pos') tp'), (q, listOf qs'.toArray cq')] ++ post)) → Q (.ref rt) { s with heap := h', toks := tk' })
    (hret1 : ∀ (rt ms : Nat) (qs' : List Value) (c : Nat) (r : List Nat) pos' tp' cq' h' tk', rem.dropWhile other = c :: r → al c = false → dg c = true → pos' ≤ 1000 → QRem qs' l pos' (c :: r) → q < ms → ms < rt → AllNe ms (pre ++ post) → AllNe rt (pre ++ post) → Fr h₀ L h' m → News h₀ L h' (pre ++ ([(rt, tupOf [.none, .ref ms]), (ms, methodObj (.ref 680) (.ref x)), (x, instObj 690 dx), (dx, lexObj w y f q st false), (f, instObj 569 df), (df, sioObj w z l (pos') tp'), (q, listOf qs'.toArray cq')] ++ post)) → Q (.ref rt) { s with heap := h', toks := tk' })
    (hret2 : ∀ (rt : Nat) (qs' : List Value) pos' tp' cq' h' tk', rem.dropWhile other = [] → pos' ≤ 1000 → QRem qs' l pos' [] → q < rt → AllNe rt (pre ++ post) → Fr h₀ L h' m → News h₀ L h' (pre ++ ([(rt, tupOf [.none, .none]), (x, instObj 690 dx), (dx, lexObj w y f q st true), (f, instObj 569 df), (df, sioObj w z l (pos') tp'), (q, listOf qs'.toArray cq')] ++ post)) → Q (.ref rt) { s with heap := h', toks := tk' }) :
    codeAny (model prog w) (ktrTop dp un gd cn cs L a ccd cl outer) (.call (.ref 673) ⟨[.ref x], []⟩) (LxR Q E) s := by
  obtain ⟨h1, h2, h3, h4, hm, hT, hpos, hq, hmi, hasc, hrl⟩ := hside
  k_dflt ktr_enter
  k_steps
  refine LxHold.out ?_
  k_dflt (refine' lx_while (RandI _ _ _ _ _ _ _ _ _ _ _ _ _ _ _) _ (randI_start ?xF ?xN ?xp ?xd) ?turn ?hE)
  case xF => k_asm
  case xN => k_asm
  case xp => assumption
  case xd => assumption
  case hE => first | passes_own | with_unfolding_all passes_own
  case turn =>
    intro n s' hI
    obtain ⟨tak, rem', qs', tc, pos', tp', cq', kk, tkk, uu, h, tk, hn, rfl, F2, N2, hp2, hd2, hrem, hal⟩ := hI
    subst hn
    cases rem' with
    | nil =>
      have e2 := drop_other (b := []) hal (by simp)
      rw [← hrem] at e2
      dsimp only [List.isEmpty_nil] at N2
      k_steps
      intro lift
      (try dsimp only)
      refine' lx_use (lift [(_, tupOf [.none, .none]), (x, instObj 690 dx), (dx, lexObj w y f q st true), (f, instObj 569 df), (df, sioObj w z l _ _), (q, listOf (List.toArray _) _)] _ ?n1e ?n2e) ?mme
      case n1e => tb_rel
      case n2e => tb_rel
      case mme =>
        intro LL
        exact hret2 _ _ _ _ _ _ _ e2 (by assumption) (by assumption) (by omega) (LL.2.last (by k_mem)) (by assumption) LL.1
    | cons c r =>
      have hc : c < 128 := hasc c (by rw [hrem]; simp)
      dsimp only [List.isEmpty_cons] at N2
      cases hac : al c with
      | true =>
        have e2 := drop_other (b := c :: r) hal (by intro d hd; cases hd; simp [other, hac])
        rw [← hrem] at e2
        have hb : Txt.isalpha (tx (List.take 1 (c :: r))) = true := (isalpha_one c hc).trans hac
        k_steps
        dsimp only [LxPost]
        k_steps
        intro lift
        (try dsimp only)
        refine' lx_use (lift [(_, tupOf [.none, .ref _]), (_, methodObj (.ref 687) (.ref x)), (x, instObj 690 dx), (dx, lexObj w y f q st false), (f, instObj 569 df), (df, sioObj w z l _ _), (q, listOf (List.toArray _) _)] _ ?n1a ?n2a) ?mma
        case n1a => tb_rel
        case n2a => tb_rel
        case mma =>
          intro LL
          exact hret0 _ _ _ c r _ _ _ _ _ e2 hac (by assumption) (by assumption) (by omega) (by omega) (LL.2.last (by k_mem)) (LL.2.last (by k_mem)) (by assumption) LL.1
      | false =>
        have hb : Txt.isalpha (tx (List.take 1 (c :: r))) = false := (isalpha_one c hc).trans hac
        cases hdc : dg c with
        | true =>
          have e2 := drop_other (b := c :: r) hal (by intro d hd; cases hd; simp [other, hdc])
          rw [← hrem] at e2
          have hb2 : Txt.isdigit (tx (List.take 1 (c :: r))) = true := (isdigit_one c hc).trans hdc
          k_steps
          dsimp only [LxPost]
          k_steps
          intro lift
          (try dsimp only)
          refine' lx_use (lift [(_, tupOf [.none, .ref _]), (_, methodObj (.ref 680) (.ref x)), (x, instObj 690 dx), (dx, lexObj w y f q st false), (f, instObj 569 df), (df, sioObj w z l _ _), (q, listOf (List.toArray _) _)] _ ?n1d ?n2d) ?mmd
          case n1d => tb_rel
          case n2d => tb_rel
          case mmd =>
            intro LL
            exact hret1 _ _ _ c r _ _ _ _ _ e2 hac hdc (by assumption) (by assumption) (by omega) (by omega) (LL.2.last (by k_mem)) (LL.2.last (by k_mem)) (by assumption) LL.1
        | false =>
          have hb2 : Txt.isdigit (tx (List.take 1 (c :: r))) = false := (isdigit_one c hc).trans hdc
          k_steps
          rename Fr _ _ _ _ => F3
          rename News _ _ _ _ => N3
          refine ⟨r.length, Nat.lt_succ_self _, tak ++ [c], r, _, _, _, _, _, _, _, _, _, _, rfl, rfl, Fr.again3 F3, N3, by assumption, by assumption, ?_, ?_⟩
          · rw [hrem, List.append_assoc]; rfl
          · intro d hd
            rcases List.mem_append.mp hd with hd | hd
            · exact hal d hd
            · rw [List.mem_singleton.mp hd]; simp [other, hac, hdc]
theorem lexRandom_u {prog : Program} {w : World} {p : Program} {loose : List Str} {mean : ExcName → Option Value} {mg mb : Str → Option Value}
    {dp un : Nat} {gd : Option (List Code)} {cn : Str} {cs : Scope} {a : Addr} {ccd : Value} {cl : List (Str × Addr)} {outer : List Env} {A₀ : Around} {base h₀ : Heap} {L : Addr} {m : Str → Option Value} {s : Shared} {Q E : Value → Shared → Prop}
    {x dx f df q cq : Nat} {y : LexT} {st : Value} {z : SioT} {tp : Tok} {l rem : List Nat} {qs : List Value} {pos : Nat} {la ld : Int} {pre post : List (Addr × Obj)}
    (B : Below A₀ base outer h₀) (F : Fr h₀ L s.heap m) (X : (hd.heap_39 w.params).In h₀)
    (N : News h₀ L s.heap (pre ++ ([(x, instObj 690 dx), (dx, lexObj w y f q st false), (f, instObj 569 df), (df, sioObj w z l (pos) tp), (q, listOf qs.toArray cq)] ++ post)))
    (Tp : Top p loose mean mg mb h₀) (hcs : cs.kind = .function) (hdp : dp + 8 < recursionLimit) (hun : un + 100 < cLine)
    (hoff : LxOff [(x, instObj 690 dx), (dx, lexObj w y f q st false), (f, instObj 569 df), (df, sioObj w z l (pos) tp), (q, listOf qs.toArray cq)] (pre ++ post)) (hside : dx < x ∧ x < df ∧ df < f ∧ f < q ∧ MoreOk y.more ∧ (tx l).length ≤ 1000 ∧ pos ≤ 1000 ∧ QRem qs l pos rem ∧ MoreIs w y.more la ld ∧ (∀ c ∈ rem, c < 128) ∧ rem.length ≤ 1000)
    (hret0 : ∀ (rt ms : Nat) (qs' : List Value) (c : Nat) (r : List Nat) pos' tp' cq' h' tk', rem.dropWhile other = c :: r → al c = true → pos' ≤ 1000 → QRem qs' l pos' (c :: r) → q < ms → ms < rt → AllNe ms (pre ++ post) → AllNe rt (pre ++ post) → Fr h₀ L h' m → News h₀ L h' (pre ++ ([(rt, tupOf [.none, .ref ms]), (ms, methodObj (.ref 687) (.ref x)), (x, instObj 690 dx), (dx, lexObj w y f q st false), (f, instObj 569 df), (df, sioObj w z l (pos') tp'), (q, listOf qs'.toArray cq')] ++ post)) → Q (.ref rt) { s with heap := h', toks := tk' })
    (hret1 : ∀ (rt ms : Nat) (qs' : List Value) (c : Nat) (r : List Nat) pos' tp' cq' h' tk', rem.dropWhile other = c :: r → al c = false → dg c = true → pos' ≤ 1000 → QRem qs' l pos' (c :: r) → q < ms → ms < rt → AllNe ms (pre ++ post) → AllNe rt (pre ++ post) → Fr h₀ L h' m → News h₀ L h' (pre ++ ([(rt, tupOf [.none, .ref ms]), (ms, methodObj (.ref 680) (.ref x)), (x, instObj 690 dx), (dx, lexObj w y f q st false), (f, instObj 569 df), (df, sioObj w z l (pos') tp'), (q, listOf qs'.toArray cq')] ++ post)) → Q (.ref rt) { s with heap := h', toks := tk' })
    (hret2 : ∀ (rt : Nat) (qs' : List Value) pos' tp' cq' h' tk', rem.dropWhile other = [] → pos' ≤ 1000 → QRem qs' l pos' [] → q < rt → AllNe rt (pre ++ post) → Fr h₀ L h' m → News h₀ L h' (pre ++ ([(rt, tupOf [.none, .none]), (x, instObj 690 dx), (dx, lexObj w y f q st true), (f, instObj 569 df), (df, sioObj w z l (pos') tp'), (q, listOf qs'.toArray cq')] ++ post)) → Q (.ref rt) { s with heap := h', toks := tk' }) :
    wpAny (model prog w) (ktrTop dp un gd cn cs L a ccd cl outer) (call (.ref 673) [.ref x]) Q E s :=
  lx_call (lexRandom_u_c B F X N Tp hcs hdp hun hoff hside hret0 hret1 hret2)
end
section
theorem reset11 : True := by
  w_top off
  trivial
/-! ### the lines (local) -/
local macro_rules | `(tactic| k_in) => `(tactic| first | with_reducible assumption | exact Frag.In.keeps (by with_reducible assumption) (Fr.keep (by with_reducible assumption)) | exact Frag.In.keeps (by with_reducible assumption) (Fr.keep (by k_asm)))
local macro_rules | `(tactic| k_room) => `(tactic| ktr_room)
/- entry into a def whose ledger is a part of the caller's -/
local macro_rules | `(tactic| ktr_enter) => `(tactic| (refine' code_lx ?k1 ?k2 ?k3 ?k4 ?kO ?k5 ?kA ?kF ?kK ?k6 ?k7 ?k8 ?k9 ?kB ?_ ?c2 ?c3 ?c4 ?c5; (case kA => exact rfl); (case kF => exact rfl); (case kK => first | exact rfl | assumption); (case k1 => k_asm); (case k2 => k_asm); (case k3 => k_asm); (case k4 => k_asm); (case kO => assumption); (case k5 => k_asm); (case k6 => k_is); (case k7 => k_is); (case k8 => k_room); (case k9 => first | exact BindsTo.of_eq rfl | exact binds_K (by k_in) rfl (by k_is) rfl rfl rfl | fail "k_enter: no rule for these arguments"); (case c5 => decide); (case kB => exact locs rfl); (case c2 => exact rfl); (case c3 => exact rfl); (case c4 => exact rfl); k_whole; intro g' L' h' FG' F' N' B' X' T' l1; (try k_lt l1); (try dsimp only); (try k_lift B'); (try k_fold)))
/- apartness -/
local macro_rules | `(tactic| ktr_rel) => `(tactic| first | assumption | ((try simp only [List.cons_append, List.nil_append, List.append_nil]); repeat (first | exact LxOff.nil | refine LxOff.cons (by k_all) ?_)))
/- a dict of six written entries and a tail -/
local macro_rules | `(tactic| k_get) => `(tactic| first
  | (refine' get6_hit ?hm ?h; (case hm => assumption); (case h => k_get))
  | (refine' get6_miss ?hm ?n1 ?n2 ?h; (case hm => assumption); (case n1 => decide +kernel); (case n2 => decide +kernel); (case h => k_get))
  | (refine' get6_is ?hm ?h ?h2; (case hm => assumption); (case h => k_get); (case h2 => (intro h9; exact absurd (h9.symm.trans (by k_get)) (by nofun)))))
local macro_rules | `(tactic| k_put) => `(tactic| (refine' put6 ?hm ?h; (case hm => assumption); (case h => k_put)))
local macro_rules | `(tactic| walk_at "setAttr ref") => `(tactic| (k_here; k_dflt ((refine' set_dict ?k1 ?k2 ?k3 ?k4 ?k5 ?k6 ?k7 ?k8 ?k9 ?k10 ?k11 ?k12 ?k13 ?_; (case k1 => k_asm); (case k2 => k_asm); (case k3 => k_asm); (case k4 => k_inst); (case k5 => exact rfl); (case k6 => k_is); (case k7 => k_is); (case k8 => k_is); (case k9 => k_is); (case k10 => k_get); (case k11 => k_put); (case k12 => k_upd); (case k13 => first | exact Nat.le_of_ble_eq_true rfl | (have h9 := MoreOk.len (by assumption); simp only [List.length_cons]; omega)); k_whole; intro h' F' N'; (try k_sweep)))))
local macro_rules | `(tactic| walk_at "call builtin:list.extend") => `(tactic| (k_here; (with_reducible show wpAny _ _ (call (Value.builtin _) [Value.ref _, Value.str _ _]) _ _ _); k_dflt (first
  | (refine' lx_extend0 ?hh ?F ?N ?D ?_; (case hh => exact rfl); (case F => k_asm); (case N => k_asm); (case D => k_mem); intro h' tk' F' N'; (try k_sweep))
  | (refine' lx_extend1 ?hh ?F ?N ?U ?_; (case hh => exact rfl); (case F => k_asm); (case N => k_asm); (case U => k_updF); intro h' tk' u' c' F' N'; (try dsimp only at N'); (try k_sweep)))))
local macro_rules | `(tactic| walk_at "call type:list") => `(tactic| (k_here; (with_reducible show wpAny _ _ (call (Value.type _) [Value.str _ _]) _ _ _); k_dflt (first
  | (refine' lx_list0 ?hh ?F ?N ?_; (case hh => exact rfl); (case F => k_asm); (case N => k_asm); intro p' h' tk' c' F' N' l1; (try k_lt l1); (try k_sweep))
  | (refine' lx_list1 ?hh ?F ?N ?_; (case hh => exact rfl); (case F => k_asm); (case N => k_asm); intro p' h' tk' u' c' F' N' l1; (try k_lt l1); (try k_sweep)))))
local macro_rules | `(tactic| tb_rel) => `(tactic| (refine' cb_drop ?cN ?cS; (case cN => assumption); (case cS => (repeat (first | exact List.forall_mem_nil _ | refine List.forall_mem_cons.mpr ⟨by k_mem, ?_⟩)))))
/- the call of a def by its contract: ktr_call CONTRACT PRE -/
local macro_rules | `(tactic| ktr_unf) => `(tactic| (intros; (with_reducible rename News _ _ _ _ => N9); (try simp only [List.cons_append, List.nil_append] at N9); (try dsimp only); (try k_fold); (try k_sweep)))
local macro_rules | `(tactic| tb_start) => `(tactic| ((repeat' apply And.intro) <;> first | assumption | omega | rfl))
local macro_rules | `(tactic| ktr_call $x:term $c:term) => `(tactic| (refine' $x (pre := $c) ?k1 ?k2 ?k3 ?k4 ?k5 ?kK ?kd ?ku ?kO ?kS ?_; (case k4 => k_asm); (case kS => tb_start); (case k1 => k_asm); (case k2 => k_asm); (case k3 => k_asm); (case k5 => k_asm); (case kK => first | exact rfl | assumption); (case kd => ktr_room); (case ku => ktr_units); (case kO => ktr_rel); ktr_unf))
local macro_rules | `(tactic| walk_at "exec While") => `(tactic| (k_here; k_dflt (refine whl_start 100 ?_)))
local macro_rules | `(tactic| walk_at "exec While BoolOp") => `(tactic| (k_here; k_dflt (refine whl_start 100 ?_)))
local macro_rules | `(tactic| walk_at "call ref") => `(tactic| (k_here; (with_reducible show wpAny _ _ (call (Value.ref 515) [Value.ref _, Value.int _ _] []) _ _ _); k_dflt (first
  | ktr_call sioRead_e [] | ktr_call sioRead_e [_] | ktr_call sioRead_e [_, _] | ktr_call sioRead_e [_, _, _] | ktr_call sioRead_e [_, _, _, _]
  | ktr_call sioRead_c [] | ktr_call sioRead_c [_] | ktr_call sioRead_c [_, _] | ktr_call sioRead_c [_, _, _] | ktr_call sioRead_c [_, _, _, _]
  | ktr_call sioRead_0 [] | ktr_call sioRead_0 [_] | ktr_call sioRead_0 [_, _] | ktr_call sioRead_0 [_, _, _] | ktr_call sioRead_0 [_, _, _, _]
  | ktr_call sioRead [] | ktr_call sioRead [_] | ktr_call sioRead [_, _] | ktr_call sioRead [_, _, _] | ktr_call sioRead [_, _, _, _])))
/- a while is held; the contracts of read, peek, pushback -/
local macro_rules | `(tactic| walk_at "exec While") => `(tactic| (k_here; refine lx_hold ?_))
local macro_rules | `(tactic| walk_at "exec While BoolOp") => `(tactic| (k_here; refine lx_hold ?_))
local macro_rules | `(tactic| ktr_unf) => `(tactic| (intros; (try ((with_reducible rename AllNe _ _ => O9); simp only [List.cons_append, List.nil_append, AllNe, and_true] at O9)); (with_reducible rename News _ _ _ _ => N9); (try simp only [List.cons_append, List.nil_append] at N9); (try dsimp only); (try k_fold); (try k_sweep)))
local macro_rules | `(tactic| walk_at "call ref") => `(tactic| (k_here; (with_reducible show wpAny _ _ (call (Value.ref 616) [Value.ref _, Value.int _ _] []) _ _ _); k_dflt (first
  | ktr_call lexRead_u [] | ktr_call lexRead_u [_] | ktr_call lexRead_u [_, _] | ktr_call lexRead_u [_, _, _] | ktr_call lexRead_u [_, _, _, _])))
local macro_rules | `(tactic| walk_at "call ref") => `(tactic| (k_here; (with_reducible show wpAny _ _ (call (Value.ref 624) [Value.ref _, Value.int _ _] []) _ _ _); k_dflt (first
  | ktr_call lexPeek_u [] | ktr_call lexPeek_u [_] | ktr_call lexPeek_u [_, _] | ktr_call lexPeek_u [_, _, _] | ktr_call lexPeek_u [_, _, _, _])))
local macro_rules | `(tactic| walk_at "call ref") => `(tactic| (k_here; (with_reducible show wpAny _ _ (call (Value.ref 631) [Value.ref _, Value.str _ _] []) _ _ _); k_dflt (first
  | ktr_call lexPush_u [] | ktr_call lexPush_u [_] | ktr_call lexPush_u [_, _] | ktr_call lexPush_u [_, _, _] | ktr_call lexPush_u [_, _, _, _])))
local macro_rules | `(tactic| walk_at "call builtin:str.join") => `(tactic| (k_here; (with_reducible show wpAny _ _ (call (Value.builtin _) [Value.str _ _, Value.ref _]) _ _ _); k_dflt (refine' lx_join ?N ?D ?l ?_; (case N => k_asm); (case D => k_mem); (case l => first | assumption | omega)); intro t' k' hl'))
local macro_rules | `(tactic| walk_at "getAttr ref") => `(tactic| (k_here; (with_reducible show wpAny _ _ (getAttr (Value.ref _) (PySem.Str.ofString "minalpha") _) _ _ _); k_dflt (refine' lx_minalpha ?F ?X ?N ?x ?d ?m ?_; (case F => k_asm); (case X => k_in); (case N => k_asm); (case x => k_mem); (case d => k_mem); (case m => assumption); intro t')))
local macro_rules | `(tactic| walk_at "getAttr ref") => `(tactic| (k_here; (with_reducible show wpAny _ _ (getAttr (Value.ref _) (PySem.Str.ofString "mindigits") _) _ _ _); k_dflt (refine' lx_mindigits ?F ?X ?N ?x ?d ?m ?_; (case F => k_asm); (case X => k_in); (case N => k_asm); (case x => k_mem); (case d => k_mem); (case m => assumption); intro t')))
local macro_rules | `(tactic| walk_at "WhlIf") => `(tactic| (first | (refine WhlIf.yes (by assumption) ?_) | (refine WhlIf.no (by assumption) ?_)))
local macro_rules | `(tactic| walk_at "call builtin:list.append") => `(tactic| (k_here; (with_reducible show wpAny _ _ (call (Value.builtin _) [Value.ref _, Value.str _ _]) _ _ _); k_dflt (refine' lx_append ?F ?N ?l ?U ?_; (case F => k_asm); (case N => k_asm); (case U => k_upd); (case l => assumption); intro h' F' N'; (try k_sweep))))
local macro_rules | `(tactic| walk_at "call builtin:len") => `(tactic| (k_here; (with_reducible show wpAny _ _ (call (Value.builtin "len") [Value.ref _]) _ _ _); k_dflt (refine' lx_len ?N ?D ?l ?_; (case N => k_asm); (case D => k_mem); (case l => assumption); intro t' tk')))
/-! ### lexStart -/
theorem lexStart_u_c {prog : Program} {w : World} {p : Program} {loose : List Str} {mean : ExcName → Option Value} {mg mb : Str → Option Value}
    {dp un : Nat} {gd : Option (List Code)} {cn : Str} {cs : Scope} {a : Addr} {ccd : Value} {cl : List (Str × Addr)} {outer : List Env} {A₀ : Around} {base h₀ : Heap} {L : Addr} {m : Str → Option Value} {s : Shared} {Q E : Value → Shared → Prop}
    {x dx f df q cq : Nat} {y : LexT} {st : Value} {z : SioT} {tp : Tok} {l rem : List Nat} {qs : List Value} {pos : Nat} {la ld : Int} {pre post : List (Addr × Obj)}
    (B : Below A₀ base outer h₀) (F : Fr h₀ L s.heap m) (X : (hd.heap_39 w.params).In h₀)
    (N : News h₀ L s.heap (pre ++ ([(x, instObj 690 dx), (dx, lexObj w y f q st false), (f, instObj 569 df), (df, sioObj w z l (pos) tp), (q, listOf qs.toArray cq)] ++ post)))
    (Tp : Top p loose mean mg mb h₀) (hcs : cs.kind = .function) (hdp : dp + 8 < recursionLimit) (hun : un + 100 < cLine)
    (hoff : LxOff [(x, instObj 690 dx), (dx, lexObj w y f q st false), (f, instObj 569 df), (df, sioObj w z l (pos) tp), (q, listOf qs.toArray cq)] (pre ++ post)) (hside : dx < x ∧ x < df ∧ df < f ∧ f < q ∧ MoreOk y.more ∧ (tx l).length ≤ 1000 ∧ pos ≤ 1000 ∧ QRem qs l pos rem ∧ MoreIs w y.more la ld ∧ (∀ c ∈ rem, c < 128) ∧ rem.length ≤ 1000)
    (hret0 : ∀ (rt ms : Nat) h' tk', q < ms → ms < rt → AllNe ms (pre ++ post) → AllNe rt (pre ++ post) → Fr h₀ L h' m → News h₀ L h' (pre ++ ([(rt, tupOf [.none, .ref ms]), (ms, methodObj (.ref 673) (.ref x)), (x, instObj 690 dx), (dx, lexObj w y f q st false), (f, instObj 569 df), (df, sioObj w z l (pos) tp), (q, listOf qs.toArray cq)] ++ post)) → Q (.ref rt) { s with heap := h', toks := tk' }) :
    codeAny (model prog w) (ktrTop dp un gd cn cs L a ccd cl outer) (.call (.ref 666) ⟨[.ref x], []⟩) (LxR Q E) s := by
  obtain ⟨h1, h2, h3, h4, hm, hT, hpos, hq, hmi, hasc, hrl⟩ := hside
  k_dflt ktr_enter
  k_steps
  intro lift
  (try dsimp only)
  refine' lx_use (lift [(_, tupOf [.none, .ref _]), (_, methodObj (.ref 673) (.ref x)), (x, instObj 690 dx), (dx, lexObj w y f q st false), (f, instObj 569 df), (df, sioObj w z l pos tp), (q, listOf qs.toArray cq)] _ ?n1 ?n2) ?mm
  case n1 => tb_rel
  case n2 => tb_rel
  case mm =>
    intro LL
    exact hret0 _ _ _ _ (by omega) (by omega) (LL.2.last (by k_mem)) (LL.2.last (by k_mem)) (by assumption) LL.1
theorem lexStart_u {prog : Program} {w : World} {p : Program} {loose : List Str} {mean : ExcName → Option Value} {mg mb : Str → Option Value}
    {dp un : Nat} {gd : Option (List Code)} {cn : Str} {cs : Scope} {a : Addr} {ccd : Value} {cl : List (Str × Addr)} {outer : List Env} {A₀ : Around} {base h₀ : Heap} {L : Addr} {m : Str → Option Value} {s : Shared} {Q E : Value → Shared → Prop}
    {x dx f df q cq : Nat} {y : LexT} {st : Value} {z : SioT} {tp : Tok} {l rem : List Nat} {qs : List Value} {pos : Nat} {la ld : Int} {pre post : List (Addr × Obj)}
    (B : Below A₀ base outer h₀) (F : Fr h₀ L s.heap m) (X : (hd.heap_39 w.params).In h₀)
    (N : News h₀ L s.heap (pre ++ ([(x, instObj 690 dx), (dx, lexObj w y f q st false), (f, instObj 569 df), (df, sioObj w z l (pos) tp), (q, listOf qs.toArray cq)] ++ post)))
    (Tp : Top p loose mean mg mb h₀) (hcs : cs.kind = .function) (hdp : dp + 8 < recursionLimit) (hun : un + 100 < cLine)
    (hoff : LxOff [(x, instObj 690 dx), (dx, lexObj w y f q st false), (f, instObj 569 df), (df, sioObj w z l (pos) tp), (q, listOf qs.toArray cq)] (pre ++ post)) (hside : dx < x ∧ x < df ∧ df < f ∧ f < q ∧ MoreOk y.more ∧ (tx l).length ≤ 1000 ∧ pos ≤ 1000 ∧ QRem qs l pos rem ∧ MoreIs w y.more la ld ∧ (∀ c ∈ rem, c < 128) ∧ rem.length ≤ 1000)
    (hret0 : ∀ (rt ms : Nat) h' tk', q < ms → ms < rt → AllNe ms (pre ++ post) → AllNe rt (pre ++ post) → Fr h₀ L h' m → News h₀ L h' (pre ++ ([(rt, tupOf [.none, .ref ms]), (ms, methodObj (.ref 673) (.ref x)), (x, instObj 690 dx), (dx, lexObj w y f q st false), (f, instObj 569 df), (df, sioObj w z l (pos) tp), (q, listOf qs.toArray cq)] ++ post)) → Q (.ref rt) { s with heap := h', toks := tk' }) :
    wpAny (model prog w) (ktrTop dp un gd cn cs L a ccd cl outer) (call (.ref 666) [.ref x]) Q E s :=
  lx_call (lexStart_u_c B F X N Tp hcs hdp hun hoff hside hret0)
end
section
theorem reset12 : True := by
  w_top off
  trivial
/-! ### the lines (local) -/
local macro_rules | `(tactic| k_in) => `(tactic| first | with_reducible assumption | exact Frag.In.keeps (by with_reducible assumption) (Fr.keep (by with_reducible assumption)) | exact Frag.In.keeps (by with_reducible assumption) (Fr.keep (by k_asm)))
local macro_rules | `(tactic| k_room) => `(tactic| ktr_room)
/- entry into a def whose ledger is a part of the caller's -/
local macro_rules | `(tactic| ktr_enter) => `(tactic| (refine' code_lx ?k1 ?k2 ?k3 ?k4 ?kO ?k5 ?kA ?kF ?kK ?k6 ?k7 ?k8 ?k9 ?kB ?_ ?c2 ?c3 ?c4 ?c5; (case kA => exact rfl); (case kF => exact rfl); (case kK => first | exact rfl | assumption); (case k1 => k_asm); (case k2 => k_asm); (case k3 => k_asm); (case k4 => k_asm); (case kO => assumption); (case k5 => k_asm); (case k6 => k_is); (case k7 => k_is); (case k8 => k_room); (case k9 => first | exact BindsTo.of_eq rfl | exact binds_K (by k_in) rfl (by k_is) rfl rfl rfl | fail "k_enter: no rule for these arguments"); (case c5 => decide); (case kB => exact locs rfl); (case c2 => exact rfl); (case c3 => exact rfl); (case c4 => exact rfl); k_whole; intro g' L' h' FG' F' N' B' X' T' l1; (try k_lt l1); (try dsimp only); (try k_lift B'); (try k_fold)))
/- apartness -/
local macro_rules | `(tactic| ktr_rel) => `(tactic| first | assumption | ((try simp only [List.cons_append, List.nil_append, List.append_nil]); repeat (first | exact LxOff.nil | refine LxOff.cons (by k_all) ?_)))
/- a dict of six written entries and a tail -/
local macro_rules | `(tactic| k_get) => `(tactic| first
  | (refine' get6_hit ?hm ?h; (case hm => assumption); (case h => k_get))
  | (refine' get6_miss ?hm ?n1 ?n2 ?h; (case hm => assumption); (case n1 => decide +kernel); (case n2 => decide +kernel); (case h => k_get))
  | (refine' get6_is ?hm ?h ?h2; (case hm => assumption); (case h => k_get); (case h2 => (intro h9; exact absurd (h9.symm.trans (by k_get)) (by nofun)))))
local macro_rules | `(tactic| k_put) => `(tactic| (refine' put6 ?hm ?h; (case hm => assumption); (case h => k_put)))
local macro_rules | `(tactic| walk_at "setAttr ref") => `(tactic| (k_here; k_dflt ((refine' set_dict ?k1 ?k2 ?k3 ?k4 ?k5 ?k6 ?k7 ?k8 ?k9 ?k10 ?k11 ?k12 ?k13 ?_; (case k1 => k_asm); (case k2 => k_asm); (case k3 => k_asm); (case k4 => k_inst); (case k5 => exact rfl); (case k6 => k_is); (case k7 => k_is); (case k8 => k_is); (case k9 => k_is); (case k10 => k_get); (case k11 => k_put); (case k12 => k_upd); (case k13 => first | exact Nat.le_of_ble_eq_true rfl | (have h9 := MoreOk.len (by assumption); simp only [List.length_cons]; omega)); k_whole; intro h' F' N'; (try k_sweep)))))
local macro_rules | `(tactic| walk_at "call builtin:list.extend") => `(tactic| (k_here; (with_reducible show wpAny _ _ (call (Value.builtin _) [Value.ref _, Value.str _ _]) _ _ _); k_dflt (first
  | (refine' lx_extend0 ?hh ?F ?N ?D ?_; (case hh => exact rfl); (case F => k_asm); (case N => k_asm); (case D => k_mem); intro h' tk' F' N'; (try k_sweep))
  | (refine' lx_extend1 ?hh ?F ?N ?U ?_; (case hh => exact rfl); (case F => k_asm); (case N => k_asm); (case U => k_updF); intro h' tk' u' c' F' N'; (try dsimp only at N'); (try k_sweep)))))
local macro_rules | `(tactic| walk_at "call type:list") => `(tactic| (k_here; (with_reducible show wpAny _ _ (call (Value.type _) [Value.str _ _]) _ _ _); k_dflt (first
  | (refine' lx_list0 ?hh ?F ?N ?_; (case hh => exact rfl); (case F => k_asm); (case N => k_asm); intro p' h' tk' c' F' N' l1; (try k_lt l1); (try k_sweep))
  | (refine' lx_list1 ?hh ?F ?N ?_; (case hh => exact rfl); (case F => k_asm); (case N => k_asm); intro p' h' tk' u' c' F' N' l1; (try k_lt l1); (try k_sweep)))))
local macro_rules | `(tactic| tb_rel) => `(tactic| (refine' cb_drop ?cN ?cS; (case cN => assumption); (case cS => (repeat (first | exact List.forall_mem_nil _ | refine List.forall_mem_cons.mpr ⟨by k_mem, ?_⟩)))))
/- the call of a def by its contract: ktr_call CONTRACT PRE -/
local macro_rules | `(tactic| ktr_unf) => `(tactic| (intros; (with_reducible rename News _ _ _ _ => N9); (try simp only [List.cons_append, List.nil_append] at N9); (try dsimp only); (try k_fold); (try k_sweep)))
local macro_rules | `(tactic| tb_start) => `(tactic| ((repeat' apply And.intro) <;> first | assumption | omega | rfl))
local macro_rules | `(tactic| ktr_call $x:term $c:term) => `(tactic| (refine' $x (pre := $c) ?k1 ?k2 ?k3 ?k4 ?k5 ?kK ?kd ?ku ?kO ?kS ?_; (case k4 => k_asm); (case kS => tb_start); (case k1 => k_asm); (case k2 => k_asm); (case k3 => k_asm); (case k5 => k_asm); (case kK => first | exact rfl | assumption); (case kd => ktr_room); (case ku => ktr_units); (case kO => ktr_rel); ktr_unf))
local macro_rules | `(tactic| walk_at "exec While") => `(tactic| (k_here; k_dflt (refine whl_start 100 ?_)))
local macro_rules | `(tactic| walk_at "exec While BoolOp") => `(tactic| (k_here; k_dflt (refine whl_start 100 ?_)))
local macro_rules | `(tactic| walk_at "call ref") => `(tactic| (k_here; (with_reducible show wpAny _ _ (call (Value.ref 515) [Value.ref _, Value.int _ _] []) _ _ _); k_dflt (first
  | ktr_call sioRead_e [] | ktr_call sioRead_e [_] | ktr_call sioRead_e [_, _] | ktr_call sioRead_e [_, _, _] | ktr_call sioRead_e [_, _, _, _]
  | ktr_call sioRead_c [] | ktr_call sioRead_c [_] | ktr_call sioRead_c [_, _] | ktr_call sioRead_c [_, _, _] | ktr_call sioRead_c [_, _, _, _]
  | ktr_call sioRead_0 [] | ktr_call sioRead_0 [_] | ktr_call sioRead_0 [_, _] | ktr_call sioRead_0 [_, _, _] | ktr_call sioRead_0 [_, _, _, _]
  | ktr_call sioRead [] | ktr_call sioRead [_] | ktr_call sioRead [_, _] | ktr_call sioRead [_, _, _] | ktr_call sioRead [_, _, _, _])))
/- a while is held; the contracts of read, peek, pushback -/
local macro_rules | `(tactic| walk_at "exec While") => `(tactic| (k_here; refine lx_hold ?_))
local macro_rules | `(tactic| walk_at "exec While BoolOp") => `(tactic| (k_here; refine lx_hold ?_))
local macro_rules | `(tactic| ktr_unf) => `(tactic| (intros; (try ((with_reducible rename AllNe _ _ => O9); simp only [List.cons_append, List.nil_append, AllNe, and_true] at O9)); (with_reducible rename News _ _ _ _ => N9); (try simp only [List.cons_append, List.nil_append] at N9); (try dsimp only); (try k_fold); (try k_sweep)))
local macro_rules | `(tactic| walk_at "call ref") => `(tactic| (k_here; (with_reducible show wpAny _ _ (call (Value.ref 616) [Value.ref _, Value.int _ _] []) _ _ _); k_dflt (first
  | ktr_call lexRead_u [] | ktr_call lexRead_u [_] | ktr_call lexRead_u [_, _] | ktr_call lexRead_u [_, _, _] | ktr_call lexRead_u [_, _, _, _])))
local macro_rules | `(tactic| walk_at "call ref") => `(tactic| (k_here; (with_reducible show wpAny _ _ (call (Value.ref 624) [Value.ref _, Value.int _ _] []) _ _ _); k_dflt (first
  | ktr_call lexPeek_u [] | ktr_call lexPeek_u [_] | ktr_call lexPeek_u [_, _] | ktr_call lexPeek_u [_, _, _] | ktr_call lexPeek_u [_, _, _, _])))
local macro_rules | `(tactic| walk_at "call ref") => `(tactic| (k_here; (with_reducible show wpAny _ _ (call (Value.ref 631) [Value.ref _, Value.str _ _] []) _ _ _); k_dflt (first
  | ktr_call lexPush_u [] | ktr_call lexPush_u [_] | ktr_call lexPush_u [_, _] | ktr_call lexPush_u [_, _, _] | ktr_call lexPush_u [_, _, _, _])))
local macro_rules | `(tactic| walk_at "call builtin:str.join") => `(tactic| (k_here; (with_reducible show wpAny _ _ (call (Value.builtin _) [Value.str _ _, Value.ref _]) _ _ _); k_dflt (refine' lx_join ?N ?D ?l ?_; (case N => k_asm); (case D => k_mem); (case l => first | assumption | omega)); intro t' k' hl'))
local macro_rules | `(tactic| walk_at "getAttr ref") => `(tactic| (k_here; (with_reducible show wpAny _ _ (getAttr (Value.ref _) (PySem.Str.ofString "minalpha") _) _ _ _); k_dflt (refine' lx_minalpha ?F ?X ?N ?x ?d ?m ?_; (case F => k_asm); (case X => k_in); (case N => k_asm); (case x => k_mem); (case d => k_mem); (case m => assumption); intro t')))
local macro_rules | `(tactic| walk_at "getAttr ref") => `(tactic| (k_here; (with_reducible show wpAny _ _ (getAttr (Value.ref _) (PySem.Str.ofString "mindigits") _) _ _ _); k_dflt (refine' lx_mindigits ?F ?X ?N ?x ?d ?m ?_; (case F => k_asm); (case X => k_in); (case N => k_asm); (case x => k_mem); (case d => k_mem); (case m => assumption); intro t')))
local macro_rules | `(tactic| walk_at "WhlIf") => `(tactic| (first | (refine WhlIf.yes (by assumption) ?_) | (refine WhlIf.no (by assumption) ?_)))
local macro_rules | `(tactic| walk_at "call builtin:list.append") => `(tactic| (k_here; (with_reducible show wpAny _ _ (call (Value.builtin _) [Value.ref _, Value.str _ _]) _ _ _); k_dflt (refine' lx_append ?F ?N ?l ?U ?_; (case F => k_asm); (case N => k_asm); (case U => k_upd); (case l => assumption); intro h' F' N'; (try k_sweep))))
local macro_rules | `(tactic| walk_at "call builtin:len") => `(tactic| (k_here; (with_reducible show wpAny _ _ (call (Value.builtin "len") [Value.ref _]) _ _ _); k_dflt (refine' lx_len ?N ?D ?l ?_; (case N => k_asm); (case D => k_mem); (case l => assumption); intro t' tk')))
/- contracts with two ends, with three -/
local macro_rules | `(tactic| ktr_call $x:term ($c:term, 1)) => `(tactic| (refine' $x (pre := $c) ?k1 ?k2 ?k3 ?k4 ?k5 ?kK ?kd ?ku ?kO ?kS ?_; (case k4 => k_asm); (case kS => tb_start); (case k1 => k_asm); (case k2 => k_asm); (case k3 => k_asm); (case k5 => k_asm); (case kK => first | exact rfl | assumption); (case kd => ktr_room); (case ku => ktr_units); (case kO => ktr_rel); all_goals ktr_unf))
local macro_rules | `(tactic| ktr_call $x:term ($c:term, 2)) => `(tactic| (refine' $x (pre := $c) ?k1 ?k2 ?k3 ?k4 ?k5 ?kK ?kd ?ku ?kO ?kS ?_ ?_; (case k4 => k_asm); (case kS => tb_start); (case k1 => k_asm); (case k2 => k_asm); (case k3 => k_asm); (case k5 => k_asm); (case kK => first | exact rfl | assumption); (case kd => ktr_room); (case ku => ktr_units); (case kO => ktr_rel); all_goals ktr_unf))
local macro_rules | `(tactic| ktr_call $x:term ($c:term, 3)) => `(tactic| (refine' $x (pre := $c) ?k1 ?k2 ?k3 ?k4 ?k5 ?kK ?kd ?ku ?kO ?kS ?_ ?_ ?_; (case k4 => k_asm); (case kS => tb_start); (case k1 => k_asm); (case k2 => k_asm); (case k3 => k_asm); (case k5 => k_asm); (case kK => first | exact rfl | assumption); (case kd => ktr_room); (case ku => ktr_units); (case kO => ktr_rel); all_goals ktr_unf))
/- the bound method that the state is -/
local macro_rules | `(tactic| walk_at "call ref") => `(tactic| (k_here; (with_reducible show wpAny _ _ (call (Value.ref _) [] []) _ _ _); k_dflt (refine' lx_meth ?N9 ?q9 ?_; (case N9 => k_asm); (case q9 => k_mem); (first
  | ktr_call lexStart_u_c ([], 1) | ktr_call lexRandom_u_c ([], 3) | ktr_call lexDigits_u_c ([], 2) | ktr_call lexAlpha_u_c ([], 2)))))
/- more apartness facts -/
local macro_rules | `(tactic| ktr_unf) => `(tactic| (intros; (repeat ((with_reducible rename AllNe _ _ => O9); simp only [List.cons_append, List.nil_append, AllNe, and_true] at O9)); (with_reducible rename News _ _ _ _ => N9); (try simp only [List.cons_append, List.nil_append] at N9); (try dsimp only); (try k_fold); (try k_sweep)))
local macro_rules | `(tactic| walk_at "getMethod ref") => `(tactic| (k_here; (with_reducible show wpAny _ _ (getMethod (Value.ref _) (Str.ofString "state") _) _ _ _); k_dflt (refine' kmu_own ?k1 ?k2 ?k3 ?k4 ?k5 ?_; (case k1 => k_asm); (case k2 => k_asm); (case k3 => k_inst); (case k4 => k_is); (case k5 => k_is); k_whole)))
/-! ### next_token -/
theorem next_start_c {prog : Program} {w : World} {p : Program} {loose : List Str} {mean : ExcName → Option Value} {mg mb : Str → Option Value}
    {dp un : Nat} {gd : Option (List Code)} {cn : Str} {cs : Scope} {a : Addr} {ccd : Value} {cl : List (Str × Addr)} {outer : List Env} {A₀ : Around} {base h₀ : Heap} {L : Addr} {m : Str → Option Value} {s : Shared} {Q E : Value → Shared → Prop}
    {x dx f df q cq : Nat} {y : LexT} {ms0 : Nat} {z : SioT} {tp : Tok} {l rem : List Nat} {qs : List Value} {pos : Nat} {la ld : Int} {pre post : List (Addr × Obj)}
    (B : Below A₀ base outer h₀) (F : Fr h₀ L s.heap m) (X : (hd.heap_39 w.params).In h₀)
    (N : News h₀ L s.heap (pre ++ ([(x, instObj 690 dx), (dx, lexObj w y f q (.ref ms0) false), (f, instObj 569 df), (df, sioObj w z l (pos) tp), (q, listOf qs.toArray cq), (ms0, methodObj (.ref 666) (.ref x))] ++ post)))
    (Tp : Top p loose mean mg mb h₀) (hcs : cs.kind = .function) (hdp : dp + 12 < recursionLimit) (hun : un + 150 < cLine)
    (hoff : LxOff [(x, instObj 690 dx), (dx, lexObj w y f q (.ref ms0) false), (f, instObj 569 df), (df, sioObj w z l (pos) tp), (q, listOf qs.toArray cq), (ms0, methodObj (.ref 666) (.ref x))] (pre ++ post)) (hside : dx < x ∧ x < df ∧ df < f ∧ f < q ∧ MoreOk y.more ∧ (tx l).length ≤ 1000 ∧ pos ≤ 1000 ∧ QRem qs l pos rem ∧ MoreIs w y.more la ld ∧ (∀ c ∈ rem, c < 128) ∧ rem.length ≤ 1000 ∧ q < ms0)
    (hret0 : ∀ (ms : Nat) h' tk', q < ms → AllNe ms (pre ++ post) → Fr h₀ L h' m → News h₀ L h' (pre ++ ([(x, instObj 690 dx), (dx, lexObj w y f q (.ref ms) false), (f, instObj 569 df), (df, sioObj w z l (pos) tp), (q, listOf qs.toArray cq), (ms, methodObj (.ref 673) (.ref x))] ++ post)) → Q .none { s with heap := h', toks := tk' }) :
    codeAny (model prog w) (ktrTop dp un gd cn cs L a ccd cl outer) (.call (.ref 601) ⟨[.ref x], []⟩) (LxR Q E) s := by
  obtain ⟨h1, h2, h3, h4, hm, hT, hpos, hq, hmi, hasc, hrl, hms⟩ := hside
  k_dflt ktr_enter
  k_steps
  · intro lift
    (try dsimp only)
    refine' lx_use (lift [(x, instObj 690 dx), (dx, lexObj w y f q (.ref ?zma) false), (f, instObj 569 df), (df, sioObj w z l (pos) tp), (q, listOf qs.toArray cq), (?zma, methodObj (.ref 673) (.ref x))] _ ?n1a ?n2a) ?mma
    case n1a => tb_rel
    case n2a => tb_rel
    case mma =>
      intro LL
      exact hret0 _ _ _ (by omega) (LL.2.last (by k_mem)) (by assumption) LL.1
theorem next_start {prog : Program} {w : World} {p : Program} {loose : List Str} {mean : ExcName → Option Value} {mg mb : Str → Option Value}
    {dp un : Nat} {gd : Option (List Code)} {cn : Str} {cs : Scope} {a : Addr} {ccd : Value} {cl : List (Str × Addr)} {outer : List Env} {A₀ : Around} {base h₀ : Heap} {L : Addr} {m : Str → Option Value} {s : Shared} {Q E : Value → Shared → Prop}
    {x dx f df q cq : Nat} {y : LexT} {ms0 : Nat} {z : SioT} {tp : Tok} {l rem : List Nat} {qs : List Value} {pos : Nat} {la ld : Int} {pre post : List (Addr × Obj)}
    (B : Below A₀ base outer h₀) (F : Fr h₀ L s.heap m) (X : (hd.heap_39 w.params).In h₀)
    (N : News h₀ L s.heap (pre ++ ([(x, instObj 690 dx), (dx, lexObj w y f q (.ref ms0) false), (f, instObj 569 df), (df, sioObj w z l (pos) tp), (q, listOf qs.toArray cq), (ms0, methodObj (.ref 666) (.ref x))] ++ post)))
    (Tp : Top p loose mean mg mb h₀) (hcs : cs.kind = .function) (hdp : dp + 12 < recursionLimit) (hun : un + 150 < cLine)
    (hoff : LxOff [(x, instObj 690 dx), (dx, lexObj w y f q (.ref ms0) false), (f, instObj 569 df), (df, sioObj w z l (pos) tp), (q, listOf qs.toArray cq), (ms0, methodObj (.ref 666) (.ref x))] (pre ++ post)) (hside : dx < x ∧ x < df ∧ df < f ∧ f < q ∧ MoreOk y.more ∧ (tx l).length ≤ 1000 ∧ pos ≤ 1000 ∧ QRem qs l pos rem ∧ MoreIs w y.more la ld ∧ (∀ c ∈ rem, c < 128) ∧ rem.length ≤ 1000 ∧ q < ms0)
    (hret0 : ∀ (ms : Nat) h' tk', q < ms → AllNe ms (pre ++ post) → Fr h₀ L h' m → News h₀ L h' (pre ++ ([(x, instObj 690 dx), (dx, lexObj w y f q (.ref ms) false), (f, instObj 569 df), (df, sioObj w z l (pos) tp), (q, listOf qs.toArray cq), (ms, methodObj (.ref 673) (.ref x))] ++ post)) → Q .none { s with heap := h', toks := tk' }) :
    wpAny (model prog w) (ktrTop dp un gd cn cs L a ccd cl outer) (call (.ref 601) [.ref x]) Q E s :=
  lx_call (next_start_c B F X N Tp hcs hdp hun hoff hside hret0)

theorem next_rand_c {prog : Program} {w : World} {p : Program} {loose : List Str} {mean : ExcName → Option Value} {mg mb : Str → Option Value}
    {dp un : Nat} {gd : Option (List Code)} {cn : Str} {cs : Scope} {a : Addr} {ccd : Value} {cl : List (Str × Addr)} {outer : List Env} {A₀ : Around} {base h₀ : Heap} {L : Addr} {m : Str → Option Value} {s : Shared} {Q E : Value → Shared → Prop}
    {x dx f df q cq : Nat} {y : LexT} {ms0 : Nat} {z : SioT} {tp : Tok} {l rem : List Nat} {qs : List Value} {pos : Nat} {la ld : Int} {pre post : List (Addr × Obj)}
    (B : Below A₀ base outer h₀) (F : Fr h₀ L s.heap m) (X : (hd.heap_39 w.params).In h₀)
    (N : News h₀ L s.heap (pre ++ ([(x, instObj 690 dx), (dx, lexObj w y f q (.ref ms0) false), (f, instObj 569 df), (df, sioObj w z l (pos) tp), (q, listOf qs.toArray cq), (ms0, methodObj (.ref 673) (.ref x))] ++ post)))
    (Tp : Top p loose mean mg mb h₀) (hcs : cs.kind = .function) (hdp : dp + 12 < recursionLimit) (hun : un + 150 < cLine)
    (hoff : LxOff [(x, instObj 690 dx), (dx, lexObj w y f q (.ref ms0) false), (f, instObj 569 df), (df, sioObj w z l (pos) tp), (q, listOf qs.toArray cq), (ms0, methodObj (.ref 673) (.ref x))] (pre ++ post)) (hside : dx < x ∧ x < df ∧ df < f ∧ f < q ∧ MoreOk y.more ∧ (tx l).length ≤ 1000 ∧ pos ≤ 1000 ∧ QRem qs l pos rem ∧ MoreIs w y.more la ld ∧ (∀ c ∈ rem, c < 128) ∧ rem.length ≤ 1000 ∧ q < ms0)
    (hret0 : ∀ (ms : Nat) (qs' : List Value) (c : Nat) (r : List Nat) pos' tp' cq' h' tk', rem.dropWhile other = c :: r → al c = true → pos' ≤ 1000 → QRem qs' l pos' (c :: r) → q < ms → AllNe ms (pre ++ post) → Fr h₀ L h' m → News h₀ L h' (pre ++ ([(x, instObj 690 dx), (dx, lexObj w y f q (.ref ms) false), (f, instObj 569 df), (df, sioObj w z l (pos') tp'), (q, listOf qs'.toArray cq'), (ms, methodObj (.ref 687) (.ref x))] ++ post)) → Q .none { s with heap := h', toks := tk' })
    (hret1 : ∀ (ms : Nat) (qs' : List Value) (c : Nat) (r : List Nat) pos' tp' cq' h' tk', rem.dropWhile other = c :: r → al c = false → dg c = true → pos' ≤ 1000 → QRem qs' l pos' (c :: r) → q < ms → AllNe ms (pre ++ post) → Fr h₀ L h' m → News h₀ L h' (pre ++ ([(x, instObj 690 dx), (dx, lexObj w y f q (.ref ms) false), (f, instObj 569 df), (df, sioObj w z l (pos') tp'), (q, listOf qs'.toArray cq'), (ms, methodObj (.ref 680) (.ref x))] ++ post)) → Q .none { s with heap := h', toks := tk' })
    (hret2 : ∀ (qs' : List Value) pos' tp' cq' h' tk', rem.dropWhile other = [] → pos' ≤ 1000 → QRem qs' l pos' [] → Fr h₀ L h' m → News h₀ L h' (pre ++ ([(x, instObj 690 dx), (dx, lexObj w y f q .none true), (f, instObj 569 df), (df, sioObj w z l (pos') tp'), (q, listOf qs'.toArray cq')] ++ post)) → Q .none { s with heap := h', toks := tk' }) :
    codeAny (model prog w) (ktrTop dp un gd cn cs L a ccd cl outer) (.call (.ref 601) ⟨[.ref x], []⟩) (LxR Q E) s := by
  obtain ⟨h1, h2, h3, h4, hm, hT, hpos, hq, hmi, hasc, hrl, hms⟩ := hside
  k_dflt ktr_enter
  k_steps
  · intro lift
    (try dsimp only)
    refine' lx_use (lift [(x, instObj 690 dx), (dx, lexObj w y f q (.ref ?zma) false), (f, instObj 569 df), (df, sioObj w z l (_) _), (q, listOf (List.toArray _) _), (?zma, methodObj (.ref 687) (.ref x))] _ ?n1a ?n2a) ?mma
    case n1a => tb_rel
    case n2a => tb_rel
    case mma =>
      intro LL
      exact hret0 _ _ _ _ _ _ _ _ _ (by assumption) (by assumption) (by assumption) (by assumption) (by omega) (LL.2.last (by k_mem)) (by assumption) LL.1
  · intro lift
    (try dsimp only)
    refine' lx_use (lift [(x, instObj 690 dx), (dx, lexObj w y f q (.ref ?zmb) false), (f, instObj 569 df), (df, sioObj w z l (_) _), (q, listOf (List.toArray _) _), (?zmb, methodObj (.ref 680) (.ref x))] _ ?n1b ?n2b) ?mmb
    case n1b => tb_rel
    case n2b => tb_rel
    case mmb =>
      intro LL
      exact hret1 _ _ _ _ _ _ _ _ _ (by assumption) (by assumption) (by assumption) (by assumption) (by assumption) (by omega) (LL.2.last (by k_mem)) (by assumption) LL.1
  · intro lift
    (try dsimp only)
    refine' lx_use (lift [(x, instObj 690 dx), (dx, lexObj w y f q .none true), (f, instObj 569 df), (df, sioObj w z l (_) _), (q, listOf (List.toArray _) _)] _ ?n1c ?n2c) ?mmc
    case n1c => tb_rel
    case n2c => tb_rel
    case mmc =>
      intro LL
      exact hret2 _ _ _ _ _ _ (by assumption) (by assumption) (by assumption) (by assumption) LL.1
theorem next_rand {prog : Program} {w : World} {p : Program} {loose : List Str} {mean : ExcName → Option Value} {mg mb : Str → Option Value}
    {dp un : Nat} {gd : Option (List Code)} {cn : Str} {cs : Scope} {a : Addr} {ccd : Value} {cl : List (Str × Addr)} {outer : List Env} {A₀ : Around} {base h₀ : Heap} {L : Addr} {m : Str → Option Value} {s : Shared} {Q E : Value → Shared → Prop}
    {x dx f df q cq : Nat} {y : LexT} {ms0 : Nat} {z : SioT} {tp : Tok} {l rem : List Nat} {qs : List Value} {pos : Nat} {la ld : Int} {pre post : List (Addr × Obj)}
    (B : Below A₀ base outer h₀) (F : Fr h₀ L s.heap m) (X : (hd.heap_39 w.params).In h₀)
    (N : News h₀ L s.heap (pre ++ ([(x, instObj 690 dx), (dx, lexObj w y f q (.ref ms0) false), (f, instObj 569 df), (df, sioObj w z l (pos) tp), (q, listOf qs.toArray cq), (ms0, methodObj (.ref 673) (.ref x))] ++ post)))
    (Tp : Top p loose mean mg mb h₀) (hcs : cs.kind = .function) (hdp : dp + 12 < recursionLimit) (hun : un + 150 < cLine)
    (hoff : LxOff [(x, instObj 690 dx), (dx, lexObj w y f q (.ref ms0) false), (f, instObj 569 df), (df, sioObj w z l (pos) tp), (q, listOf qs.toArray cq), (ms0, methodObj (.ref 673) (.ref x))] (pre ++ post)) (hside : dx < x ∧ x < df ∧ df < f ∧ f < q ∧ MoreOk y.more ∧ (tx l).length ≤ 1000 ∧ pos ≤ 1000 ∧ QRem qs l pos rem ∧ MoreIs w y.more la ld ∧ (∀ c ∈ rem, c < 128) ∧ rem.length ≤ 1000 ∧ q < ms0)
    (hret0 : ∀ (ms : Nat) (qs' : List Value) (c : Nat) (r : List Nat) pos' tp' cq' h' tk', rem.dropWhile other = c :: r → al c = true → pos' ≤ 1000 → QRem qs' l pos' (c :: r) → q < ms → AllNe ms (pre ++ post) → Fr h₀ L h' m → News h₀ L h' (pre ++ ([(x, instObj 690 dx), (dx, lexObj w y f q (.ref ms) false), (f, instObj 569 df), (df, sioObj w z l (pos') tp'), (q, listOf qs'.toArray cq'), (ms, methodObj (.ref 687) (.ref x))] ++ post)) → Q .none { s with heap := h', toks := tk' })
    (hret1 : ∀ (ms : Nat) (qs' : List Value) (c : Nat) (r : List Nat) pos' tp' cq' h' tk', rem.dropWhile other = c :: r → al c = false → dg c = true → pos' ≤ 1000 → QRem qs' l pos' (c :: r) → q < ms → AllNe ms (pre ++ post) → Fr h₀ L h' m → News h₀ L h' (pre ++ ([(x, instObj 690 dx), (dx, lexObj w y f q (.ref ms) false), (f, instObj 569 df), (df, sioObj w z l (pos') tp'), (q, listOf qs'.toArray cq'), (ms, methodObj (.ref 680) (.ref x))] ++ post)) → Q .none { s with heap := h', toks := tk' })
    (hret2 : ∀ (qs' : List Value) pos' tp' cq' h' tk', rem.dropWhile other = [] → pos' ≤ 1000 → QRem qs' l pos' [] → Fr h₀ L h' m → News h₀ L h' (pre ++ ([(x, instObj 690 dx), (dx, lexObj w y f q .none true), (f, instObj 569 df), (df, sioObj w z l (pos') tp'), (q, listOf qs'.toArray cq')] ++ post)) → Q .none { s with heap := h', toks := tk' }) :
    wpAny (model prog w) (ktrTop dp un gd cn cs L a ccd cl outer) (call (.ref 601) [.ref x]) Q E s :=
  lx_call (next_rand_c B F X N Tp hcs hdp hun hoff hside hret0 hret1 hret2)

theorem next_digits_c {prog : Program} {w : World} {p : Program} {loose : List Str} {mean : ExcName → Option Value} {mg mb : Str → Option Value}
    {dp un : Nat} {gd : Option (List Code)} {cn : Str} {cs : Scope} {a : Addr} {ccd : Value} {cl : List (Str × Addr)} {outer : List Env} {A₀ : Around} {base h₀ : Heap} {L : Addr} {m : Str → Option Value} {s : Shared} {Q E : Value → Shared → Prop}
    {x dx f df q cq : Nat} {y : LexT} {ms0 : Nat} {z : SioT} {tp : Tok} {l rem : List Nat} {qs : List Value} {pos : Nat} {la ld : Int} {pre post : List (Addr × Obj)}
    (B : Below A₀ base outer h₀) (F : Fr h₀ L s.heap m) (X : (hd.heap_39 w.params).In h₀)
    (N : News h₀ L s.heap (pre ++ ([(x, instObj 690 dx), (dx, lexObj w y f q (.ref ms0) false), (f, instObj 569 df), (df, sioObj w z l (pos) tp), (q, listOf qs.toArray cq), (ms0, methodObj (.ref 680) (.ref x))] ++ post)))
    (Tp : Top p loose mean mg mb h₀) (hcs : cs.kind = .function) (hdp : dp + 12 < recursionLimit) (hun : un + 150 < cLine)
    (hoff : LxOff [(x, instObj 690 dx), (dx, lexObj w y f q (.ref ms0) false), (f, instObj 569 df), (df, sioObj w z l (pos) tp), (q, listOf qs.toArray cq), (ms0, methodObj (.ref 680) (.ref x))] (pre ++ post)) (hside : dx < x ∧ x < df ∧ df < f ∧ f < q ∧ MoreOk y.more ∧ (tx l).length ≤ 1000 ∧ pos ≤ 1000 ∧ QRem qs l pos rem ∧ MoreIs w y.more la ld ∧ (∀ c ∈ rem, c < 128) ∧ rem.length ≤ 1000 ∧ q < ms0)
    (hret0 : ∀ (t2 ms q' : Nat) (qs' : List Value) pos' tp' cq' k1 k2 h' tk', ld ≤ ((rem.takeWhile dg).length : Int) → pos' ≤ 1000 → QRem qs' l pos' (rem.dropWhile dg) → f < q' → q' < ms → q' < t2 → t2 < ms → AllNe q' (pre ++ post) → AllNe t2 (pre ++ post) → AllNe ms (pre ++ post) → Fr h₀ L h' m → News h₀ L h' (pre ++ ([(t2, tupOf [.str (Str.ofString "NUMBER") k1, .str (tx (rem.takeWhile dg)) k2]), (x, instObj 690 dx), (dx, lexObj w y f q' (.ref ms) (rem.dropWhile dg).isEmpty), (f, instObj 569 df), (df, sioObj w z l (pos') tp'), (q', listOf qs'.toArray cq'), (ms, methodObj (.ref 673) (.ref x))] ++ post)) → Q (.ref t2) { s with heap := h', toks := tk' })
    (hret1 : ∀ (ms q' : Nat) (qs' : List Value) pos' tp' cq' h' tk', ((rem.takeWhile dg).length : Int) < ld → pos' ≤ 1000 → QRem qs' l pos' (rem.dropWhile dg) → f < q' → q' < ms → AllNe q' (pre ++ post) → AllNe ms (pre ++ post) → Fr h₀ L h' m → News h₀ L h' (pre ++ ([(x, instObj 690 dx), (dx, lexObj w y f q' (.ref ms) (rem.dropWhile dg).isEmpty), (f, instObj 569 df), (df, sioObj w z l (pos') tp'), (q', listOf qs'.toArray cq'), (ms, methodObj (.ref 673) (.ref x))] ++ post)) → Q .none { s with heap := h', toks := tk' }) :
    codeAny (model prog w) (ktrTop dp un gd cn cs L a ccd cl outer) (.call (.ref 601) ⟨[.ref x], []⟩) (LxR Q E) s := by
  obtain ⟨h1, h2, h3, h4, hm, hT, hpos, hq, hmi, hasc, hrl, hms⟩ := hside
  k_dflt ktr_enter
  k_steps
  · intro lift
    (try dsimp only)
    refine' lx_use (lift [(_, tupOf [.str (Str.ofString "NUMBER") _, .str (tx _) _]), (x, instObj 690 dx), (dx, lexObj w y f ?zqa (.ref ?zma) _), (f, instObj 569 df), (df, sioObj w z l (_) _), (?zqa, listOf (List.toArray _) _), (?zma, methodObj (.ref 673) (.ref x))] _ ?n1a ?n2a) ?mma
    case n1a => tb_rel
    case n2a => tb_rel
    case mma =>
      intro LL
      exact hret0 _ _ _ _ _ _ _ _ _ _ _ (by assumption) (by assumption) (by assumption) (by omega) (by omega) (by omega) (by omega) (LL.2.last (by k_mem)) (LL.2.last (by k_mem)) (LL.2.last (by k_mem)) (by assumption) LL.1
  · intro lift
    (try dsimp only)
    refine' lx_use (lift [(x, instObj 690 dx), (dx, lexObj w y f ?zqb (.ref ?zmb) _), (f, instObj 569 df), (df, sioObj w z l (_) _), (?zqb, listOf (List.toArray _) _), (?zmb, methodObj (.ref 673) (.ref x))] _ ?n1b ?n2b) ?mmb
    case n1b => tb_rel
    case n2b => tb_rel
    case mmb =>
      intro LL
      exact hret1 _ _ _ _ _ _ _ _ (by assumption) (by assumption) (by assumption) (by omega) (by omega) (LL.2.last (by k_mem)) (LL.2.last (by k_mem)) (by assumption) LL.1
theorem next_digits {prog : Program} {w : World} {p : Program} {loose : List Str} {mean : ExcName → Option Value} {mg mb : Str → Option Value}
    {dp un : Nat} {gd : Option (List Code)} {cn : Str} {cs : Scope} {a : Addr} {ccd : Value} {cl : List (Str × Addr)} {outer : List Env} {A₀ : Around} {base h₀ : Heap} {L : Addr} {m : Str → Option Value} {s : Shared} {Q E : Value → Shared → Prop}
    {x dx f df q cq : Nat} {y : LexT} {ms0 : Nat} {z : SioT} {tp : Tok} {l rem : List Nat} {qs : List Value} {pos : Nat} {la ld : Int} {pre post : List (Addr × Obj)}
    (B : Below A₀ base outer h₀) (F : Fr h₀ L s.heap m) (X : (hd.heap_39 w.params).In h₀)
    (N : News h₀ L s.heap (pre ++ ([(x, instObj 690 dx), (dx, lexObj w y f q (.ref ms0) false), (f, instObj 569 df), (df, sioObj w z l (pos) tp), (q, listOf qs.toArray cq), (ms0, methodObj (.ref 680) (.ref x))] ++ post)))
    (Tp : Top p loose mean mg mb h₀) (hcs : cs.kind = .function) (hdp : dp + 12 < recursionLimit) (hun : un + 150 < cLine)
    (hoff : LxOff [(x, instObj 690 dx), (dx, lexObj w y f q (.ref ms0) false), (f, instObj 569 df), (df, sioObj w z l (pos) tp), (q, listOf qs.toArray cq), (ms0, methodObj (.ref 680) (.ref x))] (pre ++ post)) (hside : dx < x ∧ x < df ∧ df < f ∧ f < q ∧ MoreOk y.more ∧ (tx l).length ≤ 1000 ∧ pos ≤ 1000 ∧ QRem qs l pos rem ∧ MoreIs w y.more la ld ∧ (∀ c ∈ rem, c < 128) ∧ rem.length ≤ 1000 ∧ q < ms0)
    (hret0 : ∀ (t2 ms q' : Nat) (qs' : List Value) pos' tp' cq' k1 k2 h' tk', ld ≤ ((rem.takeWhile dg).length : Int) → pos' ≤ 1000 → QRem qs' l pos' (rem.dropWhile dg) → f < q' → q' < ms → q' < t2 → t2 < ms → AllNe q' (pre ++ post) → AllNe t2 (pre ++ post) → AllNe ms (pre ++ post) → Fr h₀ L h' m → News h₀ L h' (pre ++ ([(t2, tupOf [.str (Str.ofString "NUMBER") k1, .str (tx (rem.takeWhile dg)) k2]), (x, instObj 690 dx), (dx, lexObj w y f q' (.ref ms) (rem.dropWhile dg).isEmpty), (f, instObj 569 df), (df, sioObj w z l (pos') tp'), (q', listOf qs'.toArray cq'), (ms, methodObj (.ref 673) (.ref x))] ++ post)) → Q (.ref t2) { s with heap := h', toks := tk' })
    (hret1 : ∀ (ms q' : Nat) (qs' : List Value) pos' tp' cq' h' tk', ((rem.takeWhile dg).length : Int) < ld → pos' ≤ 1000 → QRem qs' l pos' (rem.dropWhile dg) → f < q' → q' < ms → AllNe q' (pre ++ post) → AllNe ms (pre ++ post) → Fr h₀ L h' m → News h₀ L h' (pre ++ ([(x, instObj 690 dx), (dx, lexObj w y f q' (.ref ms) (rem.dropWhile dg).isEmpty), (f, instObj 569 df), (df, sioObj w z l (pos') tp'), (q', listOf qs'.toArray cq'), (ms, methodObj (.ref 673) (.ref x))] ++ post)) → Q .none { s with heap := h', toks := tk' }) :
    wpAny (model prog w) (ktrTop dp un gd cn cs L a ccd cl outer) (call (.ref 601) [.ref x]) Q E s :=
  lx_call (next_digits_c B F X N Tp hcs hdp hun hoff hside hret0 hret1)

theorem next_alpha_c {prog : Program} {w : World} {p : Program} {loose : List Str} {mean : ExcName → Option Value} {mg mb : Str → Option Value}
    {dp un : Nat} {gd : Option (List Code)} {cn : Str} {cs : Scope} {a : Addr} {ccd : Value} {cl : List (Str × Addr)} {outer : List Env} {A₀ : Around} {base h₀ : Heap} {L : Addr} {m : Str → Option Value} {s : Shared} {Q E : Value → Shared → Prop}
    {x dx f df q cq : Nat} {y : LexT} {ms0 : Nat} {z : SioT} {tp : Tok} {l rem : List Nat} {qs : List Value} {pos : Nat} {la ld : Int} {pre post : List (Addr × Obj)}
    (B : Below A₀ base outer h₀) (F : Fr h₀ L s.heap m) (X : (hd.heap_39 w.params).In h₀)
    (N : News h₀ L s.heap (pre ++ ([(x, instObj 690 dx), (dx, lexObj w y f q (.ref ms0) false), (f, instObj 569 df), (df, sioObj w z l (pos) tp), (q, listOf qs.toArray cq), (ms0, methodObj (.ref 687) (.ref x))] ++ post)))
    (Tp : Top p loose mean mg mb h₀) (hcs : cs.kind = .function) (hdp : dp + 12 < recursionLimit) (hun : un + 150 < cLine)
    (hoff : LxOff [(x, instObj 690 dx), (dx, lexObj w y f q (.ref ms0) false), (f, instObj 569 df), (df, sioObj w z l (pos) tp), (q, listOf qs.toArray cq), (ms0, methodObj (.ref 687) (.ref x))] (pre ++ post)) (hside : dx < x ∧ x < df ∧ df < f ∧ f < q ∧ MoreOk y.more ∧ (tx l).length ≤ 1000 ∧ pos ≤ 1000 ∧ QRem qs l pos rem ∧ MoreIs w y.more la ld ∧ (∀ c ∈ rem, c < 128) ∧ rem.length ≤ 1000 ∧ q < ms0)
    (hret0 : ∀ (t2 ms q' : Nat) (qs' : List Value) pos' tp' cq' k1 k2 h' tk', la ≤ ((rem.takeWhile al).length : Int) → pos' ≤ 1000 → QRem qs' l pos' (rem.dropWhile al) → f < q' → q' < ms → q' < t2 → t2 < ms → AllNe q' (pre ++ post) → AllNe t2 (pre ++ post) → AllNe ms (pre ++ post) → Fr h₀ L h' m → News h₀ L h' (pre ++ ([(t2, tupOf [.str (Str.ofString "STRING") k1, .str (tx (rem.takeWhile al)) k2]), (x, instObj 690 dx), (dx, lexObj w y f q' (.ref ms) (rem.dropWhile al).isEmpty), (f, instObj 569 df), (df, sioObj w z l (pos') tp'), (q', listOf qs'.toArray cq'), (ms, methodObj (.ref 673) (.ref x))] ++ post)) → Q (.ref t2) { s with heap := h', toks := tk' })
    (hret1 : ∀ (ms q' : Nat) (qs' : List Value) pos' tp' cq' h' tk', ((rem.takeWhile al).length : Int) < la → pos' ≤ 1000 → QRem qs' l pos' (rem.dropWhile al) → f < q' → q' < ms → AllNe q' (pre ++ post) → AllNe ms (pre ++ post) → Fr h₀ L h' m → News h₀ L h' (pre ++ ([(x, instObj 690 dx), (dx, lexObj w y f q' (.ref ms) (rem.dropWhile al).isEmpty), (f, instObj 569 df), (df, sioObj w z l (pos') tp'), (q', listOf qs'.toArray cq'), (ms, methodObj (.ref 673) (.ref x))] ++ post)) → Q .none { s with heap := h', toks := tk' }) :
    codeAny (model prog w) (ktrTop dp un gd cn cs L a ccd cl outer) (.call (.ref 601) ⟨[.ref x], []⟩) (LxR Q E) s := by
  obtain ⟨h1, h2, h3, h4, hm, hT, hpos, hq, hmi, hasc, hrl, hms⟩ := hside
  k_dflt ktr_enter
  k_steps
  · intro lift
    (try dsimp only)
    refine' lx_use (lift [(_, tupOf [.str (Str.ofString "STRING") _, .str (tx _) _]), (x, instObj 690 dx), (dx, lexObj w y f ?zqa (.ref ?zma) _), (f, instObj 569 df), (df, sioObj w z l (_) _), (?zqa, listOf (List.toArray _) _), (?zma, methodObj (.ref 673) (.ref x))] _ ?n1a ?n2a) ?mma
    case n1a => tb_rel
    case n2a => tb_rel
    case mma =>
      intro LL
      exact hret0 _ _ _ _ _ _ _ _ _ _ _ (by assumption) (by assumption) (by assumption) (by omega) (by omega) (by omega) (by omega) (LL.2.last (by k_mem)) (LL.2.last (by k_mem)) (LL.2.last (by k_mem)) (by assumption) LL.1
  · intro lift
    (try dsimp only)
    refine' lx_use (lift [(x, instObj 690 dx), (dx, lexObj w y f ?zqb (.ref ?zmb) _), (f, instObj 569 df), (df, sioObj w z l (_) _), (?zqb, listOf (List.toArray _) _), (?zmb, methodObj (.ref 673) (.ref x))] _ ?n1b ?n2b) ?mmb
    case n1b => tb_rel
    case n2b => tb_rel
    case mmb =>
      intro LL
      exact hret1 _ _ _ _ _ _ _ _ (by assumption) (by assumption) (by assumption) (by omega) (by omega) (LL.2.last (by k_mem)) (LL.2.last (by k_mem)) (by assumption) LL.1
theorem next_alpha {prog : Program} {w : World} {p : Program} {loose : List Str} {mean : ExcName → Option Value} {mg mb : Str → Option Value}
    {dp un : Nat} {gd : Option (List Code)} {cn : Str} {cs : Scope} {a : Addr} {ccd : Value} {cl : List (Str × Addr)} {outer : List Env} {A₀ : Around} {base h₀ : Heap} {L : Addr} {m : Str → Option Value} {s : Shared} {Q E : Value → Shared → Prop}
    {x dx f df q cq : Nat} {y : LexT} {ms0 : Nat} {z : SioT} {tp : Tok} {l rem : List Nat} {qs : List Value} {pos : Nat} {la ld : Int} {pre post : List (Addr × Obj)}
    (B : Below A₀ base outer h₀) (F : Fr h₀ L s.heap m) (X : (hd.heap_39 w.params).In h₀)
    (N : News h₀ L s.heap (pre ++ ([(x, instObj 690 dx), (dx, lexObj w y f q (.ref ms0) false), (f, instObj 569 df), (df, sioObj w z l (pos) tp), (q, listOf qs.toArray cq), (ms0, methodObj (.ref 687) (.ref x))] ++ post)))
    (Tp : Top p loose mean mg mb h₀) (hcs : cs.kind = .function) (hdp : dp + 12 < recursionLimit) (hun : un + 150 < cLine)
    (hoff : LxOff [(x, instObj 690 dx), (dx, lexObj w y f q (.ref ms0) false), (f, instObj 569 df), (df, sioObj w z l (pos) tp), (q, listOf qs.toArray cq), (ms0, methodObj (.ref 687) (.ref x))] (pre ++ post)) (hside : dx < x ∧ x < df ∧ df < f ∧ f < q ∧ MoreOk y.more ∧ (tx l).length ≤ 1000 ∧ pos ≤ 1000 ∧ QRem qs l pos rem ∧ MoreIs w y.more la ld ∧ (∀ c ∈ rem, c < 128) ∧ rem.length ≤ 1000 ∧ q < ms0)
    (hret0 : ∀ (t2 ms q' : Nat) (qs' : List Value) pos' tp' cq' k1 k2 h' tk', la ≤ ((rem.takeWhile al).length : Int) → pos' ≤ 1000 → QRem qs' l pos' (rem.dropWhile al) → f < q' → q' < ms → q' < t2 → t2 < ms → AllNe q' (pre ++ post) → AllNe t2 (pre ++ post) → AllNe ms (pre ++ post) → Fr h₀ L h' m → News h₀ L h' (pre ++ ([(t2, tupOf [.str (Str.ofString "STRING") k1, .str (tx (rem.takeWhile al)) k2]), (x, instObj 690 dx), (dx, lexObj w y f q' (.ref ms) (rem.dropWhile al).isEmpty), (f, instObj 569 df), (df, sioObj w z l (pos') tp'), (q', listOf qs'.toArray cq'), (ms, methodObj (.ref 673) (.ref x))] ++ post)) → Q (.ref t2) { s with heap := h', toks := tk' })
    (hret1 : ∀ (ms q' : Nat) (qs' : List Value) pos' tp' cq' h' tk', ((rem.takeWhile al).length : Int) < la → pos' ≤ 1000 → QRem qs' l pos' (rem.dropWhile al) → f < q' → q' < ms → AllNe q' (pre ++ post) → AllNe ms (pre ++ post) → Fr h₀ L h' m → News h₀ L h' (pre ++ ([(x, instObj 690 dx), (dx, lexObj w y f q' (.ref ms) (rem.dropWhile al).isEmpty), (f, instObj 569 df), (df, sioObj w z l (pos') tp'), (q', listOf qs'.toArray cq'), (ms, methodObj (.ref 673) (.ref x))] ++ post)) → Q .none { s with heap := h', toks := tk' }) :
    wpAny (model prog w) (ktrTop dp un gd cn cs L a ccd cl outer) (call (.ref 601) [.ref x]) Q E s :=
  lx_call (next_alpha_c B F X N Tp hcs hdp hun hoff hside hret0 hret1)
end
section
theorem reset13 : True := by
  w_top off
  trivial
/-! ### the lines (local) -/
local macro_rules | `(tactic| k_in) => `(tactic| first | with_reducible assumption | exact Frag.In.keeps (by with_reducible assumption) (Fr.keep (by with_reducible assumption)) | exact Frag.In.keeps (by with_reducible assumption) (Fr.keep (by k_asm)))
local macro_rules | `(tactic| k_room) => `(tactic| ktr_room)
/- entry into a def whose ledger is a part of the caller's -/
local macro_rules | `(tactic| ktr_enter) => `(tactic| (refine' code_lx ?k1 ?k2 ?k3 ?k4 ?kO ?k5 ?kA ?kF ?kK ?k6 ?k7 ?k8 ?k9 ?kB ?_ ?c2 ?c3 ?c4 ?c5; (case kA => exact rfl); (case kF => exact rfl); (case kK => first | exact rfl | assumption); (case k1 => k_asm); (case k2 => k_asm); (case k3 => k_asm); (case k4 => k_asm); (case kO => assumption); (case k5 => k_asm); (case k6 => k_is); (case k7 => k_is); (case k8 => k_room); (case k9 => first | exact BindsTo.of_eq rfl | exact binds_K (by k_in) rfl (by k_is) rfl rfl rfl | fail "k_enter: no rule for these arguments"); (case c5 => decide); (case kB => exact locs rfl); (case c2 => exact rfl); (case c3 => exact rfl); (case c4 => exact rfl); k_whole; intro g' L' h' FG' F' N' B' X' T' l1; (try k_lt l1); (try dsimp only); (try k_lift B'); (try k_fold)))
/- apartness -/
local macro_rules | `(tactic| ktr_rel) => `(tactic| first | assumption | ((try simp only [List.cons_append, List.nil_append, List.append_nil]); repeat (first | exact LxOff.nil | refine LxOff.cons (by k_all) ?_)))
/- a dict of six written entries and a tail -/
local macro_rules | `(tactic| k_get) => `(tactic| first
  | (refine' get6_hit ?hm ?h; (case hm => assumption); (case h => k_get))
  | (refine' get6_miss ?hm ?n1 ?n2 ?h; (case hm => assumption); (case n1 => decide +kernel); (case n2 => decide +kernel); (case h => k_get))
  | (refine' get6_is ?hm ?h ?h2; (case hm => assumption); (case h => k_get); (case h2 => (intro h9; exact absurd (h9.symm.trans (by k_get)) (by nofun)))))
local macro_rules | `(tactic| k_put) => `(tactic| (refine' put6 ?hm ?h; (case hm => assumption); (case h => k_put)))
local macro_rules | `(tactic| walk_at "setAttr ref") => `(tactic| (k_here; k_dflt ((refine' set_dict ?k1 ?k2 ?k3 ?k4 ?k5 ?k6 ?k7 ?k8 ?k9 ?k10 ?k11 ?k12 ?k13 ?_; (case k1 => k_asm); (case k2 => k_asm); (case k3 => k_asm); (case k4 => k_inst); (case k5 => exact rfl); (case k6 => k_is); (case k7 => k_is); (case k8 => k_is); (case k9 => k_is); (case k10 => k_get); (case k11 => k_put); (case k12 => k_upd); (case k13 => first | exact Nat.le_of_ble_eq_true rfl | (have h9 := MoreOk.len (by assumption); simp only [List.length_cons]; omega)); k_whole; intro h' F' N'; (try k_sweep)))))
local macro_rules | `(tactic| walk_at "call builtin:list.extend") => `(tactic| (k_here; (with_reducible show wpAny _ _ (call (Value.builtin _) [Value.ref _, Value.str _ _]) _ _ _); k_dflt (first
  | (refine' lx_extend0 ?hh ?F ?N ?D ?_; (case hh => exact rfl); (case F => k_asm); (case N => k_asm); (case D => k_mem); intro h' tk' F' N'; (try k_sweep))
  | (refine' lx_extend1 ?hh ?F ?N ?U ?_; (case hh => exact rfl); (case F => k_asm); (case N => k_asm); (case U => k_updF); intro h' tk' u' c' F' N'; (try dsimp only at N'); (try k_sweep)))))
local macro_rules | `(tactic| walk_at "call type:list") => `(tactic| (k_here; (with_reducible show wpAny _ _ (call (Value.type _) [Value.str _ _]) _ _ _); k_dflt (first
  | (refine' lx_list0 ?hh ?F ?N ?_; (case hh => exact rfl); (case F => k_asm); (case N => k_asm); intro p' h' tk' c' F' N' l1; (try k_lt l1); (try k_sweep))
  | (refine' lx_list1 ?hh ?F ?N ?_; (case hh => exact rfl); (case F => k_asm); (case N => k_asm); intro p' h' tk' u' c' F' N' l1; (try k_lt l1); (try k_sweep)))))
local macro_rules | `(tactic| tb_rel) => `(tactic| (refine' cb_drop ?cN ?cS; (case cN => assumption); (case cS => (repeat (first | exact List.forall_mem_nil _ | refine List.forall_mem_cons.mpr ⟨by k_mem, ?_⟩)))))
/-! ### a generator's segments: what the library's rules lack -/
section
variable {M : Model} {A : Around} {R : GenEnd} {Y : Protocol} {n : Nat} {s₀ : Shared} {c : Code} {fs : List Frame} {s : Shared} {env : Env}
  {K : Flow → Sem Fin} {H : Value → Sem Fin} {gd : Bool → Bool} {lv : List Value → List Value}
theorem seg_If {test : PySem.Expr} {body orelse : List Stmt} {pos : Pos}
    (h : wpAny M (A.over c fs) (isTrue test env (eval test env)) (fun b s' => if b = true then Seg M A R Y n s₀ c ((execs body env).wrap K H gd lv) fs s' else Seg M A R Y n s₀ c ((execs orelse env).wrap K H gd lv) fs s') (fun x s' => Seg M A R Y n s₀ c (H x) fs s') s) :
    Seg M A R Y n s₀ c ((exec (.If test body orelse pos) env).wrap K H gd lv) fs s := by
  rw [exec_If]
  show Seg M A R Y n s₀ c (.at pos fun _ => ((isTrue test env (eval test env) >>= fun b => if b = true then execs body env else execs orelse env)).wrap K H gd lv) fs s
  refine seg_at (seg_bind_wrap (wpAny_mono h (fun b s' hb => ?_) fun _ _ x => x))
  cases b <;> exact hb
end
/-- a segment that waits -/
def LxSeg (P : Prop) : Prop := P
theorem over_loop {dp un : Nat} {gd : Option (List Code)} {fr : List Env} {test : PySem.Expr} {body orelse b' : List Stmt} {env env' : Env} {k : Result → Sem Fin} {l : List Value} {p : Pos} :
    (Around.mk none dp (some fr) gd un).over (.whileLoop test body orelse env') [.ret k none false l (.func b' env) p []] = (Around.mk none dp (some fr) gd un).deeper env := by
  simp [Around.over, Around.deeper, marksOver, Frame.marks, Frame.where_, frameCount, envsOf, guardsOf, pushEnvs, pushGuards, Code.weight, Code.frames, Code.isCreation, Code.isGuard, Code.isCaller, Code.envs, Code.isFrame, Code.env?, Code.guards, unitsOf, Code.cUnits, markOver]
end
section
theorem reset14 : True := by
  w_top off
  trivial
/-! ### the lines (local) -/
local macro_rules | `(tactic| k_in) => `(tactic| first | with_reducible assumption | exact Frag.In.keeps (by with_reducible assumption) (Fr.keep (by with_reducible assumption)) | exact Frag.In.keeps (by with_reducible assumption) (Fr.keep (by k_asm)))
local macro_rules | `(tactic| k_room) => `(tactic| ktr_room)
/- entry into a def whose ledger is a part of the caller's -/
local macro_rules | `(tactic| ktr_enter) => `(tactic| (refine' code_lx ?k1 ?k2 ?k3 ?k4 ?kO ?k5 ?kA ?kF ?kK ?k6 ?k7 ?k8 ?k9 ?kB ?_ ?c2 ?c3 ?c4 ?c5; (case kA => exact rfl); (case kF => exact rfl); (case kK => first | exact rfl | assumption); (case k1 => k_asm); (case k2 => k_asm); (case k3 => k_asm); (case k4 => k_asm); (case kO => assumption); (case k5 => k_asm); (case k6 => k_is); (case k7 => k_is); (case k8 => k_room); (case k9 => first | exact BindsTo.of_eq rfl | exact binds_K (by k_in) rfl (by k_is) rfl rfl rfl | fail "k_enter: no rule for these arguments"); (case c5 => decide); (case kB => exact locs rfl); (case c2 => exact rfl); (case c3 => exact rfl); (case c4 => exact rfl); k_whole; intro g' L' h' FG' F' N' B' X' T' l1; (try k_lt l1); (try dsimp only); (try k_lift B'); (try k_fold)))
/- apartness -/
local macro_rules | `(tactic| ktr_rel) => `(tactic| first | assumption | ((try simp only [List.cons_append, List.nil_append, List.append_nil]); repeat (first | exact LxOff.nil | refine LxOff.cons (by k_all) ?_)))
/- a dict of six written entries and a tail -/
local macro_rules | `(tactic| k_get) => `(tactic| first
  | (refine' get6_hit ?hm ?h; (case hm => assumption); (case h => k_get))
  | (refine' get6_miss ?hm ?n1 ?n2 ?h; (case hm => assumption); (case n1 => decide +kernel); (case n2 => decide +kernel); (case h => k_get))
  | (refine' get6_is ?hm ?h ?h2; (case hm => assumption); (case h => k_get); (case h2 => (intro h9; exact absurd (h9.symm.trans (by k_get)) (by nofun)))))
local macro_rules | `(tactic| k_put) => `(tactic| (refine' put6 ?hm ?h; (case hm => assumption); (case h => k_put)))
local macro_rules | `(tactic| walk_at "setAttr ref") => `(tactic| (k_here; k_dflt ((refine' set_dict ?k1 ?k2 ?k3 ?k4 ?k5 ?k6 ?k7 ?k8 ?k9 ?k10 ?k11 ?k12 ?k13 ?_; (case k1 => k_asm); (case k2 => k_asm); (case k3 => k_asm); (case k4 => k_inst); (case k5 => exact rfl); (case k6 => k_is); (case k7 => k_is); (case k8 => k_is); (case k9 => k_is); (case k10 => k_get); (case k11 => k_put); (case k12 => k_upd); (case k13 => first | exact Nat.le_of_ble_eq_true rfl | (have h9 := MoreOk.len (by assumption); simp only [List.length_cons]; omega)); k_whole; intro h' F' N'; (try k_sweep)))))
local macro_rules | `(tactic| walk_at "call builtin:list.extend") => `(tactic| (k_here; (with_reducible show wpAny _ _ (call (Value.builtin _) [Value.ref _, Value.str _ _]) _ _ _); k_dflt (first
  | (refine' lx_extend0 ?hh ?F ?N ?D ?_; (case hh => exact rfl); (case F => k_asm); (case N => k_asm); (case D => k_mem); intro h' tk' F' N'; (try k_sweep))
  | (refine' lx_extend1 ?hh ?F ?N ?U ?_; (case hh => exact rfl); (case F => k_asm); (case N => k_asm); (case U => k_updF); intro h' tk' u' c' F' N'; (try dsimp only at N'); (try k_sweep)))))
local macro_rules | `(tactic| walk_at "call type:list") => `(tactic| (k_here; (with_reducible show wpAny _ _ (call (Value.type _) [Value.str _ _]) _ _ _); k_dflt (first
  | (refine' lx_list0 ?hh ?F ?N ?_; (case hh => exact rfl); (case F => k_asm); (case N => k_asm); intro p' h' tk' c' F' N' l1; (try k_lt l1); (try k_sweep))
  | (refine' lx_list1 ?hh ?F ?N ?_; (case hh => exact rfl); (case F => k_asm); (case N => k_asm); intro p' h' tk' u' c' F' N' l1; (try k_lt l1); (try k_sweep)))))
local macro_rules | `(tactic| tb_rel) => `(tactic| (refine' cb_drop ?cN ?cS; (case cN => assumption); (case cS => (repeat (first | exact List.forall_mem_nil _ | refine List.forall_mem_cons.mpr ⟨by k_mem, ?_⟩)))))
/-! ### the call of a generator's def -/
abbrev genObj (gn : Nat) (nm qn : Value) : Obj := { cls := .type "generator", data := .fields #[.int gn 0, nm, qn] }
theorem code_gen_lx {prog : Program} {w : World} {A A₀ : Around} {s : Shared} {K : Frag} {L : Addr} {h₀ base : Heap} {m mg mb : Str → Option Value} {p : Program} {loose : List Str} {mean : ExcName → Option Value}
    {env : Env} {outer : List Env} {R : Result → Shared → Prop} {name qual : Str} {params : Arguments} {body : List Stmt} {scope : Scope} {dV kV doc pm cdv ct oc : Value} {an od : Option Addr} {osl : Array (Option Value)} {f : Addr} {args : Args} {binds : List (Str × Value)}
    {pre led post : List (Addr × Obj)}
    (B : Below A₀ base outer h₀) (F : Fr h₀ L s.heap m) (X₀ : K.In h₀) (N : News h₀ L s.heap (pre ++ (led ++ post))) (hoff : LxOff led (pre ++ post)) (T : Top p loose mean mg mb h₀) (hA : A.frames = some (env :: outer)) (hf : env.frame = some L) (hke : env.scope.kind = .function)
    (ho : K.lookup f = some ⟨oc, od, .func (fnOf name qual params body scope dV kV doc pm an cdv ct), osl⟩) (hcd : codeIn K cdv qual = true) (hroom : A.depth < recursionLimit)
    (hbind : BindsTo s (fnOf name qual params body scope dV kV doc pm an cdv ct) args binds) (hloc : ∀ y ∈ binds, scope.names.lookup y.1 = some .local)
    (h : ∀ g C h₁ tk, Fr h₀ L g m → News h₀ L g (pre ++ post) → Fr g C h₁ (fun y => binds.reverse.lookup y) → News g C h₁ led → Below A base (env :: outer) g → K.In g → Top p loose mean mg mb g → (∀ p ∈ led, p.1 < C) → (∀ h' : Heap, (∀ b o, g.get? b = some o → h'.get? b = some o) → Fr h₀ L h' m ∧ News h₀ L h' (pre ++ post)) →
      (∀ q : Addr, g.get? q = none → AllNe q (pre ++ post) ∧ q ≠ L ∧ h₀.get? q = none) →
      g.objs.size ≤ h₁.objs.size → R (.ok (.ret (.ref h₁.objs.size))) { s with gens := s.gens.push (.fresh (.func body (envOf qual scope C f cdv))), toks := tk + 1 + 1, heap := h₁.push (genObj s.gens.size (.str name tk) (.str qual (tk + 1))) })
    (hco : scope.isCoroutine = false) (hgen : scope.isGenerator = true) (hk : scope.kind = .function)
    (hcell : ∀ x ∈ scope.names, x.2 ≠ .cell) : codeAny (model prog w) A (.call (.ref f) args) R s := by
  have Nl : News h₀ L s.heap led := fun q hq => N q (List.mem_append_right _ (List.mem_append_left _ hq))
  have Nr : News h₀ L s.heap (pre ++ post) := fun q hq => N q (by
    rcases List.mem_append.mp hq with h | h
    · exact List.mem_append_left _ h
    · exact List.mem_append_right _ (List.mem_append_right _ h))
  obtain ⟨FG, BG, st, _⟩ := groundX (R := R) B F Nl hA hf hke
  have X := X₀.keeps F.keep
  have NG : ∀ q ∈ pre ++ post, (hideAll s.heap (led.map (·.1))).get? q.1 = some q.2 := fun q hq => hideAll_get _ (Nr q hq).1 fun hm => by
    obtain ⟨p, hp, e⟩ := List.mem_map.mp hm
    exact hoff p hp q hq e
  obtain ⟨oL, es, ep, hL, hLd, hLk, hLf⟩ := FG.ns
  refine codeAny_call_generator (fd := fnOf name qual params body scope dV kV doc pm an cdv ct) (body := body) hroom (X _ _ ho) rfl hco hgen rfl (codeRec_of X hcd) (hbind _ _ _ _ ?_)
  refine wpAny_newFunctionEnv hcell hloc (fun h₁ hns hsb₀ => ⟨(T.nolimit.keeps F.keep).fresh _ hsb₀, ?_⟩) hk
  have hk₁ : ∀ b o, s.heap.get? b = some o → h₁.get? b = some o := fun b o e => hsb₀.extBut b o (Nat.ne_of_lt (Heap.lt_size e)) (Heap.get?_push_of_some _ e)
  refine h _ s.heap.objs.size h₁ _ FG (fun q hq => ⟨NG q hq, (Nr q hq).2⟩) ⟨hns, fun b o e => hk₁ b o (of_hideAll _ e), Nat.le_of_eq (hideAll_size _ _)⟩
    (fun p hp => ⟨hk₁ _ _ (Nl p hp).1, Nat.ne_of_lt (Heap.lt_size (Nl p hp).1), hideAll_none _ (List.mem_map_of_mem hp)⟩) BG (X₀.keeps st) (T.keeps st) (fun p hp => Heap.lt_size (Nl p hp).1)
    (fun h' k => ⟨⟨⟨oL, es, ep, k L oL hL, hLd, hLk, hLf⟩, fun b o e => k b o (st b o e), F.above⟩, fun q hq => ⟨k _ _ (NG q hq), (Nr q hq).2⟩⟩) (fun q hq => ⟨allNe_of fun p hp e => ?_, fun e => ?_, ?_⟩) ?_
  · rw [e, NG p hp] at hq; cases hq
  · rw [e, hL] at hq; cases hq
  · cases r : h₀.get? q with
    | none => rfl
    | some o => rw [st _ _ r] at hq; cases hq
  · rw [hideAll_size]
    obtain ⟨oC, _, _, hC, _⟩ := hns
    exact Nat.le_of_lt (Heap.lt_size hC)
/-! ### tokens -/
structure TkE where
  t : Nat
  k : String
  l : List Nat
  t1 : Tok
  t2 : Tok
def TkE.ob (e : TkE) : Addr × Obj := (e.t, tupOf [.str (Str.ofString e.k) e.t1, .str (tx e.l) e.t2])
def TkE.tk (e : TkE) : String × List Nat := (e.k, e.l)
def TkE.val (e : TkE) : Value := .ref e.t
inductive Toks (la ld : Int) : List Nat → List (String × List Nat) → Prop
  | nil : Toks la ld [] []
  | oth {c r ks} : other c = true → Toks la ld r ks → Toks la ld (c :: r) ks
  | alY {c r ks} : al c = true → la ≤ (((c :: r).takeWhile al).length : Int) → Toks la ld ((c :: r).dropWhile al) ks → Toks la ld (c :: r) (("STRING", (c :: r).takeWhile al) :: ks)
  | alN {c r ks} : al c = true → (((c :: r).takeWhile al).length : Int) < la → Toks la ld ((c :: r).dropWhile al) ks → Toks la ld (c :: r) ks
  | dgY {c r ks} : dg c = true → ld ≤ (((c :: r).takeWhile dg).length : Int) → Toks la ld ((c :: r).dropWhile dg) ks → Toks la ld (c :: r) (("NUMBER", (c :: r).takeWhile dg) :: ks)
  | dgN {c r ks} : dg c = true → (((c :: r).takeWhile dg).length : Int) < ld → Toks la ld ((c :: r).dropWhile dg) ks → Toks la ld (c :: r) ks
theorem al_dg {c : Nat} (h : al c = true) : dg c = false := by
  unfold al at h
  unfold dg
  cases q : (decide (48 ≤ c) && decide (c ≤ 57)) with
  | false => rfl
  | true => simp at h q; omega
theorem drop_le {pr : Nat → Bool} : ∀ l : List Nat, (l.dropWhile pr).length ≤ l.length
  | [] => Nat.le_refl _
  | c :: l => by
    rw [List.dropWhile_cons]
    cases pr c with
    | true => exact Nat.le_trans (drop_le l) (Nat.le_succ _)
    | false => exact Nat.le_refl _
theorem drop_lt {pr : Nat → Bool} {c : Nat} {l : List Nat} (h : pr c = true) : ((c :: l).dropWhile pr).length ≤ l.length := by
  rw [List.dropWhile_cons, h]; exact drop_le l
theorem toks_ex (la ld : Int) : ∀ n (l : List Nat), l.length ≤ n → ∃ ks, Toks la ld l ks := by
  intro n
  induction n with
  | zero =>
    intro l h
    cases l with
    | nil => exact ⟨[], .nil⟩
    | cons c r => exact absurd h (Nat.not_succ_le_zero _)
  | succ n ih =>
    intro l h
    cases l with
    | nil => exact ⟨[], .nil⟩
    | cons c r =>
      have hr : r.length ≤ n := Nat.le_of_succ_le_succ h
      cases ha : al c with
      | true =>
        obtain ⟨ks, hk⟩ := ih ((c :: r).dropWhile al) (Nat.le_trans (drop_lt ha) hr)
        rcases Int.lt_or_le (((c :: r).takeWhile al).length : Int) la with q | q
        · exact ⟨_, .alN ha q hk⟩
        · exact ⟨_, .alY ha q hk⟩
      | false =>
        cases hd : dg c with
        | true =>
          obtain ⟨ks, hk⟩ := ih ((c :: r).dropWhile dg) (Nat.le_trans (drop_lt hd) hr)
          rcases Int.lt_or_le (((c :: r).takeWhile dg).length : Int) ld with q | q
          · exact ⟨_, .dgN hd q hk⟩
          · exact ⟨_, .dgY hd q hk⟩
        | false =>
          obtain ⟨ks, hk⟩ := ih r hr
          exact ⟨ks, .oth (by simp [other, ha, hd]) hk⟩
theorem Toks.skip {la ld : Int} : ∀ {l : List Nat} {ks}, Toks la ld l ks → Toks la ld (l.dropWhile other) ks
  | [], _, h => h
  | c :: l, ks, h => by
    cases ho : other c with
    | false => rw [List.dropWhile_cons, ho]; exact h
    | true =>
      rw [List.dropWhile_cons, ho]
      simp only [other, Bool.and_eq_true, Bool.not_eq_true'] at ho
      cases h with
      | oth _ h => exact h.skip
      | alY a _ _ => rw [ho.1] at a; cases a
      | alN a _ _ => rw [ho.1] at a; cases a
      | dgY a _ _ => rw [ho.2] at a; cases a
      | dgN a _ _ => rw [ho.2] at a; cases a
theorem Toks.none {la ld : Int} {ks} (h : Toks la ld [] ks) : ks = [] := by cases h; rfl
/-- the state of the lexer, what is left, what it will tell, how many turns at most -/
inductive PRun (la ld : Int) : Nat → List Nat → List (String × List Nat) → Nat → Prop
  | start {rem ks} : Toks la ld rem ks → PRun la ld 666 rem ks (2 * rem.length + 2)
  | rand {rem ks} : Toks la ld rem ks → PRun la ld 673 rem ks (2 * rem.length + 1)
  | digits {c r ks} : dg c = true → Toks la ld (c :: r) ks → PRun la ld 680 (c :: r) ks (2 * (c :: r).length)
  | alpha {c r ks} : al c = true → Toks la ld (c :: r) ks → PRun la ld 687 (c :: r) ks (2 * (c :: r).length)
/-- the generator at rest -/
inductive PInv (w : World) (g : Heap) (C x dx f df : Nat) (z : SioT) (l : List Nat) (la ld : Int) (m₁ : Str → Option Value) : Nat → List (String × List Nat) → Heap → List (Addr × Obj) → Prop
  | run {y : LexT} {q cq ms F : Nat} {u : Option Value} {tp : Tok} {rem : List Nat} {qs : List Value} {pos : Nat} {ks : List (String × List Nat)} {h : Heap} {rest : List (Addr × Obj)} {mu : Nat} : Fr g C h (fun n => if n = Str.ofString "tok" then u else m₁ n) →
      News g C h ([(x, instObj 690 dx), (dx, lexObj w y f q (.ref ms) false), (f, instObj 569 df), (df, sioObj w z l pos tp), (q, listOf qs.toArray cq), (ms, methodObj (.ref F) (.ref x))] ++ rest) →
      LxOff [(x, instObj 690 dx), (dx, lexObj w y f q (.ref ms) false), (f, instObj 569 df), (df, sioObj w z l pos tp), (q, listOf qs.toArray cq), (ms, methodObj (.ref F) (.ref x))] rest →
      (dx < x ∧ x < df ∧ df < f ∧ f < q ∧ MoreOk y.more ∧ (tx l).length ≤ 1000 ∧ pos ≤ 1000 ∧ QRem qs l pos rem ∧ MoreIs w y.more la ld ∧ (∀ c ∈ rem, c < 128) ∧ rem.length ≤ 1000 ∧ q < ms) →
      PRun la ld F rem ks mu → PInv w g C x dx f df z l la ld m₁ mu ks h rest
  | stop {y : LexT} {q cq : Nat} {st : Value} {u : Option Value} {tp : Tok} {qs : List Value} {pos : Nat} {h : Heap} {rest : List (Addr × Obj)} : Fr g C h (fun n => if n = Str.ofString "tok" then u else m₁ n) →
      News g C h ([(x, instObj 690 dx), (dx, lexObj w y f q st true), (f, instObj 569 df), (df, sioObj w z l pos tp), (q, listOf qs.toArray cq)] ++ rest) →
      LxOff [(x, instObj 690 dx), (dx, lexObj w y f q st true), (f, instObj 569 df), (df, sioObj w z l pos tp), (q, listOf qs.toArray cq)] rest →
      MoreOk y.more → (st = .none ∨ ∃ ms : Nat, st = .ref ms) → PInv w g C x dx f df z l la ld m₁ 0 [] h rest
section
variable {w : World} {g : Heap} {C x dx f df : Nat} {z : SioT} {l : List Nat} {la ld : Int} {m₁ : Str → Option Value} {mu : Nat} {ks : List (String × List Nat)} {h h' : Heap} {rest rest' : List (Addr × Obj)}
theorem PInv.news (P : PInv w g C x dx f df z l la ld m₁ mu ks h rest) : News g C h rest := by
  cases P with
  | run F N => exact fun p hp => N p (List.mem_append_right _ hp)
  | stop F N => exact fun p hp => N p (List.mem_append_right _ hp)
theorem PInv.fr (P : PInv w g C x dx f df z l la ld m₁ mu ks h rest) : ∃ m, Fr g C h m := by
  cases P with
  | run F N => exact ⟨_, F⟩
  | stop F N => exact ⟨_, F⟩
theorem LxOff.sub {led : List (Addr × Obj)} (O : LxOff led rest) (hs : ∀ p ∈ rest', ∃ p' ∈ rest, p'.1 = p.1) : LxOff led rest' := fun a ha b hb e => by
  obtain ⟨p', hp', e'⟩ := hs b hb
  exact O a ha p' hp' (e.trans e'.symm)
/-- the heap moves off the lexer's own -/
theorem PInv.moves {S : Nat} (P : PInv w g C x dx f df z l la ld m₁ mu ks h rest) (hS : ∃ o, (S, o) ∈ rest) (hk : ∀ b o, b ≠ S → h.get? b = some o → h'.get? b = some o) (N' : ∀ p ∈ rest', h'.get? p.1 = some p.2)
    (hs : ∀ p ∈ rest', ∃ p' ∈ rest, p'.1 = p.1) : PInv w g C x dx f df z l la ld m₁ mu ks h' rest' := by
  obtain ⟨oS, hS⟩ := hS
  have fr : ∀ {m}, Fr g C h m → News g C h rest → Fr g C h' m := fun F Nr => by
    obtain ⟨oL, es, ep, hL, r⟩ := F.ns
    have := Nr _ hS
    refine ⟨⟨oL, es, ep, hk _ _ (fun e => this.2.1 e.symm) hL, r⟩, fun b o e => hk b o (fun q => ?_) (F.keep b o e), F.above⟩
    rw [← q, e] at this; cases this.2.2
  have nw : ∀ {led}, News g C h (led ++ rest) → LxOff led rest → News g C h' (led ++ rest') := fun N O p hp => by
    rcases List.mem_append.mp hp with hp | hp
    · have n := N p (List.mem_append_left _ hp)
      exact ⟨hk _ _ (O p hp _ hS) n.1, n.2⟩
    · obtain ⟨p', hp', e⟩ := hs p hp
      have n := N p' (List.mem_append_right _ hp')
      rw [e] at n
      exact ⟨N' p hp, n.2⟩
  have Pn := P.news
  cases P with
  | run F N O a b => exact .run (fr F Pn) (nw N O) (O.sub hs) a b
  | stop F N O a b => exact .stop (fr F Pn) (nw N O) (O.sub hs) a b
end
abbrev restOf (S G : Nat) (gob : Obj) (es : List TkE) (c : Nat) : List (Addr × Obj) := (S, listOf (es.map TkE.val).toArray c) :: (G, gob) :: es.map TkE.ob
/-- all that the generator may count on, all that it promises -/
def LxP (w : World) (g : Heap) (C x dx f df : Nat) (z : SioT) (l : List Nat) (la ld : Int) (m₁ : Str → Option Value) (S G : Nat) (gob : Obj) (ks : List (String × List Nat)) (h : Heap) (es : List TkE) (c : Nat) : Prop :=
  S ≠ G ∧ AllNe S (es.map TkE.ob) ∧ ∃ mu, PInv w g C x dx f df z l la ld m₁ mu ks h (restOf S G gob es c)
def LxY (w : World) (g : Heap) (C x dx f df : Nat) (z : SioT) (l : List Nat) (la ld : Int) (m₁ : Str → Option Value) (S G : Nat) (gob : Obj) (all : List (String × List Nat)) : Protocol := fun n s₀ v s kap =>
  ∃ es c e ks' h tk, es.map TkE.tk ++ e.tk :: ks' = all ∧ ks'.length = n ∧ v = e.val ∧ s = { s₀ with heap := h, toks := tk } ∧ S ≠ G ∧ AllNe S (es.map TkE.ob) ∧ AllNe e.t (restOf S G gob es c) ∧
    (∃ mu, PInv w g C x dx f df z l la ld m₁ mu ks' h (e.ob :: restOf S G gob es c)) ∧
    ∀ s'' c', LxP w g C x dx f df z l la ld m₁ S G gob ks' s''.heap (es ++ [e]) c' → kap (.send .none) s''
def LxEnd (w : World) (g : Heap) (C x dx f df : Nat) (z : SioT) (l : List Nat) (la ld : Int) (m₁ : Str → Option Value) (S G : Nat) (gob : Obj) (all : List (String × List Nat)) : Nat → Shared → Shared → Prop := fun _ s₀ s =>
  ∃ es c h tk, es.map TkE.tk = all ∧ s = { s₀ with heap := h, toks := tk } ∧ LxP w g C x dx f df z l la ld m₁ S G gob [] h es c
def LxReady (prog : Program) (w : World) (g : Heap) (C x dx f df : Nat) (z : SioT) (l : List Nat) (la ld : Int) (m₁ : Str → Option Value) (gs : GenState) (all : List (String × List Nat)) : Prop :=
  ∀ (dp un : Nat) (gd : Option (List Code)) (cn : Str) (cs : Scope) (L a : Addr) (ccd : Value) (cl : List (Str × Addr)) (outer : List Env) (base : Heap),
    Below (ktrTop dp un gd cn cs L a ccd cl outer) base (envX cn cs L a ccd cl :: outer) g → cs.kind = .function → dp + 16 < recursionLimit → un + 200 < cLine →
    ∀ (S G : Nat) (gob : Obj) (s : Shared) (c : Nat), LxP w g C x dx f df z l la ld m₁ S G gob all s.heap [] c →
    gs.Goes (model prog w) (ktrTop dp un gd cn cs L a ccd cl outer) (fun n s₀ r s₁ => r = .ok (.ret .none) ∧ LxEnd w g C x dx f df z l la ld m₁ S G gob all n s₀ s₁) (LxY w g C x dx f df z l la ld m₁ S G gob all) all.length (.send .none) s
theorem below_units {A A' : Around} {base h h' : Heap} {outer : List Env} (B : Below A base outer h) (e : A'.frames = A.frames) (k : ∀ b o, h.get? b = some o → h'.get? b = some o) : Below A' base outer h' :=
  ⟨e.trans B.stack, fun b o q => k b o (B.stays b o q), B.frames.of_keeps fun b o q _ => ⟨o, k b o q, rfl⟩⟩
/-- a generator at hand that will tell all, and what its teller may lean on -/
def LxGenAt (prog : Program) (w : World) (dp un : Nat) (gd : Option (List Code)) (cn : Str) (cs : Scope) (a : Addr) (ccd : Value) (cl : List (Str × Addr)) (outer : List Env) (h₀ : Heap) (L : Addr) (m : Str → Option Value) (x : Nat) (ext rest : List (Addr × Obj)) (all : List (String × List Nat)) (base gens : Array GenState) (G : Nat) (h : Heap) : Prop :=
  ∃ (g bb : Heap) (C dx f df : Nat) (z : SioT) (l : List Nat) (la ld : Int) (m₁ : Str → Option Value) (gs : GenState) (nm qn : Value),
    gens = base.push gs ∧ (∃ mu, PInv w g C x dx f df z l la ld m₁ mu all h ((G, genObj base.size nm qn) :: ext)) ∧
    LxReady prog w g C x dx f df z l la ld m₁ gs all ∧ (∀ h : Heap, (∀ b o, g.get? b = some o → h.get? b = some o) → h.NoLimit) ∧
    (∀ h' : Heap, (∀ b o, g.get? b = some o → h'.get? b = some o) → Fr h₀ L h' m ∧ News h₀ L h' rest) ∧ (∀ q : Addr, g.get? q = none → AllNe q rest ∧ q ≠ L ∧ h₀.get? q = none) ∧
    (∀ b o, h₀.get? b = some o → g.get? b = some o) ∧ Below (ktrTop dp un gd cn cs L a ccd cl outer) bb (envX cn cs L a ccd cl :: outer) g
/-- seen from the frame below -/
theorem LxGenAt.up {prog : Program} {w : World} {dp un dp' un' : Nat} {gd gd' : Option (List Code)} {cn cn' : Str} {cs cs' : Scope} {a a' : Addr} {ccd ccd' : Value} {cl cl' : List (Str × Addr)} {outer outer' : List Env} {h₀ h₁ : Heap} {L L' : Addr} {m m' : Str → Option Value} {x : Nat} {ext rest rest' : List (Addr × Obj)} {all : List (String × List Nat)} {base gens : Array GenState} {G : Nat} {h b0 : Heap}
    (P : LxGenAt prog w dp un gd cn cs a ccd cl outer h₁ L m x ext rest all base gens G h) (bk : ∀ h' : Heap, (∀ b o, h₁.get? b = some o → h'.get? b = some o) → Fr h₀ L' h' m' ∧ News h₀ L' h' rest') (of : ∀ q : Addr, h₁.get? q = none → AllNe q rest' ∧ q ≠ L' ∧ h₀.get? q = none)
    (kp : ∀ b o, h₀.get? b = some o → h₁.get? b = some o) (B : Below (ktrTop dp' un' gd' cn' cs' L' a' ccd' cl' outer') b0 (envX cn' cs' L' a' ccd' cl' :: outer') h₁) :
    LxGenAt prog w dp' un' gd' cn' cs' a' ccd' cl' outer' h₀ L' m' x ext rest' all base gens G h := by
  obtain ⟨g, bb, C, dx, f, df, z, l, la, ld, m₁, gs, nm, qn, h1, h2, h3, h4, h5, h6, h7, h8⟩ := P
  exact ⟨g, b0, C, dx, f, df, z, l, la, ld, m₁, gs, nm, qn, h1, h2, h3, h4, fun h' k => bk h' fun b o e => k b o (h7 b o e), fun q hq => of q (h6 q hq).2.2, fun b o e => h7 b o (kp b o e), below_units B rfl h7⟩
theorem Toks.len {la ld : Int} : ∀ n {l : List Nat} {ks}, l.length ≤ n → Toks la ld l ks → ks.length ≤ n := by
  intro n
  induction n with
  | zero => intro l ks hl h; cases h with
    | nil => exact Nat.le_refl _
    | _ => exact absurd hl (Nat.not_succ_le_zero _)
  | succ n ih =>
    intro l ks hl h
    cases h with
    | nil => exact Nat.zero_le _
    | oth _ h => exact Nat.le_succ_of_le (ih (Nat.le_of_succ_le_succ hl) h)
    | alY a _ h => exact Nat.succ_le_succ (ih (Nat.le_trans (drop_lt a) (Nat.le_of_succ_le_succ hl)) h)
    | alN a _ h => exact Nat.le_succ_of_le (ih (Nat.le_trans (drop_lt a) (Nat.le_of_succ_le_succ hl)) h)
    | dgY a _ h => exact Nat.succ_le_succ (ih (Nat.le_trans (drop_lt a) (Nat.le_of_succ_le_succ hl)) h)
    | dgN a _ h => exact Nat.le_succ_of_le (ih (Nat.le_trans (drop_lt a) (Nat.le_of_succ_le_succ hl)) h)
end
section
theorem reset15 : True := by
  w_top off
  trivial
/-! ### the lines (local) -/
local macro_rules | `(tactic| k_in) => `(tactic| first | with_reducible assumption | exact Frag.In.keeps (by with_reducible assumption) (Fr.keep (by with_reducible assumption)) | exact Frag.In.keeps (by with_reducible assumption) (Fr.keep (by k_asm)))
local macro_rules | `(tactic| k_room) => `(tactic| ktr_room)
/- entry into a def whose ledger is a part of the caller's -/
local macro_rules | `(tactic| ktr_enter) => `(tactic| (refine' code_lx ?k1 ?k2 ?k3 ?k4 ?kO ?k5 ?kA ?kF ?kK ?k6 ?k7 ?k8 ?k9 ?kB ?_ ?c2 ?c3 ?c4 ?c5; (case kA => exact rfl); (case kF => exact rfl); (case kK => first | exact rfl | assumption); (case k1 => k_asm); (case k2 => k_asm); (case k3 => k_asm); (case k4 => k_asm); (case kO => assumption); (case k5 => k_asm); (case k6 => k_is); (case k7 => k_is); (case k8 => k_room); (case k9 => first | exact BindsTo.of_eq rfl | exact binds_K (by k_in) rfl (by k_is) rfl rfl rfl | fail "k_enter: no rule for these arguments"); (case c5 => decide); (case kB => exact locs rfl); (case c2 => exact rfl); (case c3 => exact rfl); (case c4 => exact rfl); k_whole; intro g' L' h' FG' F' N' B' X' T' l1; (try k_lt l1); (try dsimp only); (try k_lift B'); (try k_fold)))
/- apartness -/
local macro_rules | `(tactic| ktr_rel) => `(tactic| first | assumption | ((try simp only [List.cons_append, List.nil_append, List.append_nil]); repeat (first | exact LxOff.nil | refine LxOff.cons (by k_all) ?_)))
/- a dict of six written entries and a tail -/
local macro_rules | `(tactic| k_get) => `(tactic| first
  | (refine' get6_hit ?hm ?h; (case hm => assumption); (case h => k_get))
  | (refine' get6_miss ?hm ?n1 ?n2 ?h; (case hm => assumption); (case n1 => decide +kernel); (case n2 => decide +kernel); (case h => k_get))
  | (refine' get6_is ?hm ?h ?h2; (case hm => assumption); (case h => k_get); (case h2 => (intro h9; exact absurd (h9.symm.trans (by k_get)) (by nofun)))))
local macro_rules | `(tactic| k_put) => `(tactic| (refine' put6 ?hm ?h; (case hm => assumption); (case h => k_put)))
local macro_rules | `(tactic| walk_at "setAttr ref") => `(tactic| (k_here; k_dflt ((refine' set_dict ?k1 ?k2 ?k3 ?k4 ?k5 ?k6 ?k7 ?k8 ?k9 ?k10 ?k11 ?k12 ?k13 ?_; (case k1 => k_asm); (case k2 => k_asm); (case k3 => k_asm); (case k4 => k_inst); (case k5 => exact rfl); (case k6 => k_is); (case k7 => k_is); (case k8 => k_is); (case k9 => k_is); (case k10 => k_get); (case k11 => k_put); (case k12 => k_upd); (case k13 => first | exact Nat.le_of_ble_eq_true rfl | (have h9 := MoreOk.len (by assumption); simp only [List.length_cons]; omega)); k_whole; intro h' F' N'; (try k_sweep)))))
local macro_rules | `(tactic| walk_at "call builtin:list.extend") => `(tactic| (k_here; (with_reducible show wpAny _ _ (call (Value.builtin _) [Value.ref _, Value.str _ _]) _ _ _); k_dflt (first
  | (refine' lx_extend0 ?hh ?F ?N ?D ?_; (case hh => exact rfl); (case F => k_asm); (case N => k_asm); (case D => k_mem); intro h' tk' F' N'; (try k_sweep))
  | (refine' lx_extend1 ?hh ?F ?N ?U ?_; (case hh => exact rfl); (case F => k_asm); (case N => k_asm); (case U => k_updF); intro h' tk' u' c' F' N'; (try dsimp only at N'); (try k_sweep)))))
local macro_rules | `(tactic| walk_at "call type:list") => `(tactic| (k_here; (with_reducible show wpAny _ _ (call (Value.type _) [Value.str _ _]) _ _ _); k_dflt (first
  | (refine' lx_list0 ?hh ?F ?N ?_; (case hh => exact rfl); (case F => k_asm); (case N => k_asm); intro p' h' tk' c' F' N' l1; (try k_lt l1); (try k_sweep))
  | (refine' lx_list1 ?hh ?F ?N ?_; (case hh => exact rfl); (case F => k_asm); (case N => k_asm); intro p' h' tk' u' c' F' N' l1; (try k_lt l1); (try k_sweep)))))
local macro_rules | `(tactic| tb_rel) => `(tactic| (refine' cb_drop ?cN ?cS; (case cN => assumption); (case cS => (repeat (first | exact List.forall_mem_nil _ | refine List.forall_mem_cons.mpr ⟨by k_mem, ?_⟩)))))
/-! ### list(generator) -/
theorem set_last {α : Type} (a : Array α) (x y : α) : (a.push x).setIfInBounds a.size y = a.push y := by
  apply Array.ext_getElem?
  intro i
  rw [Array.getElem?_setIfInBounds, Array.getElem?_push, Array.getElem?_push]
  by_cases e : i = a.size
  · subst e; simp
  · have e' : ¬ a.size = i := fun h => e h.symm
    simp [e, e']
theorem get_last {α : Type} (a : Array α) (x : α) : (a.push x)[a.size]? = some x := by simp
theorem allNe_snoc {a : Nat} {p : Addr × Obj} : ∀ {r : List (Addr × Obj)}, AllNe a r → @Ne Nat a p.1 → AllNe a (r ++ [p])
  | [], _, h => ⟨h, trivial⟩
  | _ :: _, h, h2 => ⟨h.1, allNe_snoc h.2 h2⟩
theorem AllNe.at {a : Nat} {r : List (Addr × Obj)} (h : AllNe a r) : ∀ p ∈ r, @Ne Nat a p.1 := by
  induction r with
  | nil => intro p hp; cases hp
  | cons b r ih =>
    intro p hp
    rcases List.mem_cons.mp hp with rfl | hp
    · exact h.1
    · exact ih h.2 p hp
section
variable {w : World} {g : Heap} {C x dx f df : Nat} {z : SioT} {l : List Nat} {la ld : Int} {m₁ : Str → Option Value} {S G : Nat} {gob : Obj}
theorem LxP.alloc {ks : List (String × List Nat)} {h h' : Heap} {es : List TkE} {c : Nat} (P : LxP w g C x dx f df z l la ld m₁ S G gob ks h es c) (hk : ∀ b o, h.get? b = some o → h'.get? b = some o) : LxP w g C x dx f df z l la ld m₁ S G gob ks h' es c := by
  obtain ⟨h1, h2, mu, Q⟩ := P
  exact ⟨h1, h2, mu, Q.moves (S := S) ⟨_, .head _⟩ (fun b o _ e => hk b o e) (fun p hp => hk _ _ (Q.news p hp).1) (fun p hp => ⟨p, hp, rfl⟩)⟩
/-- S's list is written anew -/
theorem LxP.upd {ks : List (String × List Nat)} {h : Heap} {es es' : List TkE} {c c' : Nat} {fn : Obj → Obj} {extra : List (Addr × Obj)} (hSG : S ≠ G) (hS : AllNe S (es.map TkE.ob)) (hx : es'.map TkE.ob = es.map TkE.ob ++ extra) (hne : AllNe S extra)
    (P : ∃ mu, PInv w g C x dx f df z l la ld m₁ mu ks h (extra ++ restOf S G gob es c)) (hf : fn (listOf (es.map TkE.val).toArray c) = listOf (es'.map TkE.val).toArray c') : LxP w g C x dx f df z l la ld m₁ S G gob ks (h.update S fn) es' c' := by
  obtain ⟨mu, Q⟩ := P
  have N := Q.news
  have hSm : (S, listOf (es.map TkE.val).toArray c) ∈ extra ++ restOf S G gob es c := List.mem_append_right _ (.head _)
  have hne2 : AllNe S (es'.map TkE.ob) := by
    rw [hx]
    exact allNe_of fun p hp => (List.mem_append.mp hp).elim (fun hp => hS.at p hp) fun hp => hne.at p hp
  refine ⟨hSG, hne2, mu, Q.moves (S := S) ⟨_, hSm⟩ (fun b o hb e => (Heap.get?_update_other _ _ (Ne.symm hb)).trans e) (fun p hp => ?_) (fun p hp => ?_)⟩
  · rcases List.mem_cons.mp hp with rfl | hp
    · have := Heap.get?_update_self fn (N _ hSm).1 (by dsimp only; rw [hf]; rfl)
      rw [hf] at this
      exact this
    · rcases List.mem_cons.mp hp with rfl | hp
      · exact (Heap.get?_update_other _ _ hSG).trans (N _ (List.mem_append_right _ (.tail _ (.head _)))).1
      · have hb := hne2.at p hp
        rw [hx] at hp
        refine (Heap.get?_update_other _ _ hb).trans (N _ ?_).1
        rcases List.mem_append.mp hp with hp | hp
        · exact List.mem_append_right _ (.tail _ (.tail _ hp))
        · exact List.mem_append_left _ hp
  · rcases List.mem_cons.mp hp with rfl | hp
    · exact ⟨_, hSm, rfl⟩
    · rcases List.mem_cons.mp hp with rfl | hp
      · exact ⟨_, List.mem_append_right _ (.tail _ (.head _)), rfl⟩
      · rw [hx] at hp
        rcases List.mem_append.mp hp with hp | hp
        · exact ⟨p, List.mem_append_right _ (.tail _ (.tail _ hp)), rfl⟩
        · exact ⟨p, List.mem_append_left _ hp, rfl⟩
theorem LxP.list {ks : List (String × List Nat)} {h : Heap} {es : List TkE} {c : Nat} (P : LxP w g C x dx f df z l la ld m₁ S G gob ks h es c) : h.get? S = some (listOf (es.map TkE.val).toArray c) := by
  obtain ⟨_, _, mu, Q⟩ := P
  exact (Q.news _ (.head _)).1
theorem LxP.gen {ks : List (String × List Nat)} {h : Heap} {es : List TkE} {c : Nat} (P : LxP w g C x dx f df z l la ld m₁ S G gob ks h es c) : h.get? G = some gob := by
  obtain ⟨_, _, mu, Q⟩ := P
  exact (Q.news _ (.tail _ (.head _))).1
theorem LxP.keep {ks : List (String × List Nat)} {h : Heap} {es : List TkE} {c : Nat} (P : LxP w g C x dx f df z l la ld m₁ S G gob ks h es c) : ∀ b o, g.get? b = some o → h.get? b = some o := by
  obtain ⟨_, _, mu, Q⟩ := P
  obtain ⟨m, F⟩ := Q.fr
  exact F.keep
end
section
variable {prog : Program} {w : World} {A : Around} {g : Heap} {C x dx f df : Nat} {z : SioT} {l : List Nat} {la ld : Int} {m₁ : Str → Option Value}
variable {S G : Nat} {nm qn : Value} {all : List (String × List Nat)} {base : Array GenState} {s0 : Shared} {R : Result → Shared → Prop} {res : Value}
theorem lx_gen_loop (hh : A.handled = none) (T : ∀ h : Heap, (∀ b o, g.get? b = some o → h.get? b = some o) → h.NoLimit) (hroom : A.depth < recursionLimit) (hall : all.length ≤ 1000)
    (hR : ∀ es c h tk, es.map TkE.tk = all → LxP w g C x dx f df z l la ld m₁ S G (genObj base.size nm qn) [] h es c → R (.ok (.ret res)) { s0 with heap := h, toks := tk, gens := base.push .finished }) :
    ∀ (n : Nat) (ks : List (String × List Nat)) (es : List TkE) (c : Nat) (gs : GenState) (h : Heap) (tk : Nat), ks.length = n → es.length + n ≤ all.length → LxP w g C x dx f df z l la ld m₁ S G (genObj base.size nm qn) ks h es c →
      (∀ s c', LxP w g C x dx f df z l la ld m₁ S G (genObj base.size nm qn) ks s.heap es c' →
        gs.Goes (model prog w) A.in1.in1 (fun n s₀ r s₁ => r = .ok (.ret .none) ∧ LxEnd w g C x dx f df z l la ld m₁ S G (genObj base.size nm qn) all n s₀ s₁) (LxY w g C x dx f df z l la ld m₁ S G (genObj base.size nm qn) all) n (.send .none) s) →
      codeAny (model prog w) A (.builtin "list.extend.loop" ⟨[.ref S, .ref G, res], []⟩) R { s0 with heap := h, toks := tk, gens := base.push gs } := by
  intro n
  induction n with
  | zero =>
    intro ks es c gs h tk hn hle P hgo
    refine codeAny_builtin F.entry_extend_loop ?_
    rw [Around.under_plainId F.plain_extend_loop _]
    show wpAny _ A.in1 (pyNext (.ref G) >>= _) _ _ _
    refine wpAny_bind (wpAny_pyNext_gen hh (T h P.keep) hroom ⟨_, nm, qn, P.gen, rfl, rfl, rfl⟩ (get_last base gs) (n := 0) (hgo _ c P) (fun v s₁ gs' hY => ?_) fun s₁ hP h' hk => ?_)
    · obtain ⟨es', c', e, ks', h1, tk1, he, hl, rfl, rfl, hSG, hS, hte, P1, hkap⟩ := hY
      refine (hkap ⟨h1.update S (fun _ => listOf ((es' ++ [e]).map TkE.val).toArray 0), #[], {}, 0, {}⟩ 0 (LxP.upd (extra := [e.ob]) hSG hS (by simp) ⟨fun q => (hte.1 q.symm), trivial⟩ P1 rfl)).elim
    · obtain ⟨es', c', h1, tk1, he, rfl, P1⟩ := hP
      refine wpAny_pure ?_
      have P2 := P1.alloc hk
      have := hR es' c' h' tk1 he P2
      simp only [Shared.setGen, set_last]
      exact this
  | succ n ih =>
    intro ks es c gs h tk hn hle P hgo
    refine codeAny_builtin F.entry_extend_loop ?_
    rw [Around.under_plainId F.plain_extend_loop _]
    show wpAny _ A.in1 (pyNext (.ref G) >>= _) _ _ _
    refine wpAny_bind (wpAny_pyNext_gen hh (T h P.keep) hroom ⟨_, nm, qn, P.gen, rfl, rfl, rfl⟩ (get_last base gs) (n := n + 1) (hgo _ c P) (fun v s₁ gs' hY => ?_) fun s₁ hP h' hk => ?_)
    · obtain ⟨es', c', e, ks', h1, tk1, he, hl, rfl, rfl, hSG, hS, hte, P1, hkap⟩ := hY
      have hsz : es'.length + 1 + ks'.length = all.length := by
        have := congrArg List.length he
        simp only [List.length_append, List.length_map, List.length_cons] at this
        omega
      have hl' : ks'.length = n := by simpa using hl
      obtain ⟨mu1, Q1⟩ := P1
      have hSat : h1.get? S = some (listOf (es'.map TkE.val).toArray c') := (Q1.news _ (.tail _ (.head _))).1
      show wpAny _ A.in1 (updateSeq S (·.push e.val) >>= _) _ _ _
      refine wpAny_bind ?_
      refine wpAny_updateSeq hSat rfl (wpAny_pure ⟨plainId_quiet F.plain_extend_loop _, ?_⟩) (by simp; have := hall; unfold sizeLine; omega) (by simp; have := hall; unfold sizeLine; omega)
      simp only [Shared.setGen, set_last]
      refine ih ks' (es' ++ [e]) (c' + 1) gs' _ tk1 hl' (by simp; omega) (LxP.upd (extra := [e.ob]) hSG hS (by simp) ⟨fun q => (hte.1 q.symm), trivial⟩ ⟨mu1, Q1⟩ ?_) fun s c2 P2 => hkap s c2 P2
      simp [Obj.mapSeq]
    · obtain ⟨es', c', h1, tk1, he, rfl, P1⟩ := hP
      refine wpAny_pure ?_
      have P2 := P1.alloc hk
      have := hR es' c' h' tk1 he P2
      simp only [Shared.setGen, set_last]
      exact this
end
end
section
theorem reset16 : True := by
  w_top off
  trivial
/-! ### the lines (local) -/
local macro_rules | `(tactic| k_in) => `(tactic| first | with_reducible assumption | exact Frag.In.keeps (by with_reducible assumption) (Fr.keep (by with_reducible assumption)) | exact Frag.In.keeps (by with_reducible assumption) (Fr.keep (by k_asm)))
local macro_rules | `(tactic| k_room) => `(tactic| ktr_room)
/- entry into a def whose ledger is a part of the caller's -/
local macro_rules | `(tactic| ktr_enter) => `(tactic| (refine' code_lx ?k1 ?k2 ?k3 ?k4 ?kO ?k5 ?kA ?kF ?kK ?k6 ?k7 ?k8 ?k9 ?kB ?_ ?c2 ?c3 ?c4 ?c5; (case kA => exact rfl); (case kF => exact rfl); (case kK => first | exact rfl | assumption); (case k1 => k_asm); (case k2 => k_asm); (case k3 => k_asm); (case k4 => k_asm); (case kO => assumption); (case k5 => k_asm); (case k6 => k_is); (case k7 => k_is); (case k8 => k_room); (case k9 => first | exact BindsTo.of_eq rfl | exact binds_K (by k_in) rfl (by k_is) rfl rfl rfl | fail "k_enter: no rule for these arguments"); (case c5 => decide); (case kB => exact locs rfl); (case c2 => exact rfl); (case c3 => exact rfl); (case c4 => exact rfl); k_whole; intro g' L' h' FG' F' N' B' X' T' l1; (try k_lt l1); (try dsimp only); (try k_lift B'); (try k_fold)))
/- apartness -/
local macro_rules | `(tactic| ktr_rel) => `(tactic| first | assumption | ((try simp only [List.cons_append, List.nil_append, List.append_nil]); repeat (first | exact LxOff.nil | refine LxOff.cons (by k_all) ?_)))
/- a dict of six written entries and a tail -/
local macro_rules | `(tactic| k_get) => `(tactic| first
  | (refine' get6_hit ?hm ?h; (case hm => assumption); (case h => k_get))
  | (refine' get6_miss ?hm ?n1 ?n2 ?h; (case hm => assumption); (case n1 => decide +kernel); (case n2 => decide +kernel); (case h => k_get))
  | (refine' get6_is ?hm ?h ?h2; (case hm => assumption); (case h => k_get); (case h2 => (intro h9; exact absurd (h9.symm.trans (by k_get)) (by nofun)))))
local macro_rules | `(tactic| k_put) => `(tactic| (refine' put6 ?hm ?h; (case hm => assumption); (case h => k_put)))
local macro_rules | `(tactic| walk_at "setAttr ref") => `(tactic| (k_here; k_dflt ((refine' set_dict ?k1 ?k2 ?k3 ?k4 ?k5 ?k6 ?k7 ?k8 ?k9 ?k10 ?k11 ?k12 ?k13 ?_; (case k1 => k_asm); (case k2 => k_asm); (case k3 => k_asm); (case k4 => k_inst); (case k5 => exact rfl); (case k6 => k_is); (case k7 => k_is); (case k8 => k_is); (case k9 => k_is); (case k10 => k_get); (case k11 => k_put); (case k12 => k_upd); (case k13 => first | exact Nat.le_of_ble_eq_true rfl | (have h9 := MoreOk.len (by assumption); simp only [List.length_cons]; omega)); k_whole; intro h' F' N'; (try k_sweep)))))
local macro_rules | `(tactic| walk_at "call builtin:list.extend") => `(tactic| (k_here; (with_reducible show wpAny _ _ (call (Value.builtin _) [Value.ref _, Value.str _ _]) _ _ _); k_dflt (first
  | (refine' lx_extend0 ?hh ?F ?N ?D ?_; (case hh => exact rfl); (case F => k_asm); (case N => k_asm); (case D => k_mem); intro h' tk' F' N'; (try k_sweep))
  | (refine' lx_extend1 ?hh ?F ?N ?U ?_; (case hh => exact rfl); (case F => k_asm); (case N => k_asm); (case U => k_updF); intro h' tk' u' c' F' N'; (try dsimp only at N'); (try k_sweep)))))
local macro_rules | `(tactic| walk_at "call type:list") => `(tactic| (k_here; (with_reducible show wpAny _ _ (call (Value.type _) [Value.str _ _]) _ _ _); k_dflt (first
  | (refine' lx_list0 ?hh ?F ?N ?_; (case hh => exact rfl); (case F => k_asm); (case N => k_asm); intro p' h' tk' c' F' N' l1; (try k_lt l1); (try k_sweep))
  | (refine' lx_list1 ?hh ?F ?N ?_; (case hh => exact rfl); (case F => k_asm); (case N => k_asm); intro p' h' tk' u' c' F' N' l1; (try k_lt l1); (try k_sweep)))))
local macro_rules | `(tactic| tb_rel) => `(tactic| (refine' cb_drop ?cN ?cS; (case cN => assumption); (case cS => (repeat (first | exact List.forall_mem_nil _ | refine List.forall_mem_cons.mpr ⟨by k_mem, ?_⟩)))))
section
variable {prog : Program} {w : World} {A : Around} {g : Heap} {C x dx f df : Nat} {z : SioT} {l : List Nat} {la ld : Int} {m₁ : Str → Option Value}
variable {S G : Nat} {nm qn : Value} {all : List (String × List Nat)} {base : Array GenState} {s0 : Shared} {R : Result → Shared → Prop}
/-- the list makes room, then takes all -/
theorem lx_list_rest (hh : A.handled = none) (T : ∀ h : Heap, (∀ b o, g.get? b = some o → h.get? b = some o) → h.NoLimit) (hroom : A.depth < recursionLimit) (hall : all.length ≤ 1000)
    (hR : ∀ es c h tk, es.map TkE.tk = all → LxP w g C x dx f df z l la ld m₁ S G (genObj base.size nm qn) [] h es c → R (.ok (.ret .none)) { s0 with heap := h, toks := tk, gens := base.push .finished })
    {h : Heap} {tk c₀ : Nat} {gs : GenState} (P2 : LxP w g C x dx f df z l la ld m₁ S G (genObj base.size nm qn) all h [] c₀)
    (hgo : ∀ s c', LxP w g C x dx f df z l la ld m₁ S G (genObj base.size nm qn) all s.heap [] c' →
        gs.Goes (model prog w) A.in1.in1 (fun n s₀ r s₁ => r = .ok (.ret .none) ∧ LxEnd w g C x dx f df z l la ld m₁ S G (genObj base.size nm qn) all n s₀ s₁) (LxY w g C x dx f df z l la ld m₁ S G (genObj base.size nm qn) all) all.length (.send .none) s) :
    wpAny (model prog w) A.in1 (rule "list.extend.makes-room" >>= fun _ => Builtin.List.listTouch (.ref S) >>= fun _ =>
    again (.builtin "list.extend.loop" ⟨[.ref S, .ref G, .none], []⟩))
      (fun fin s' => match fin with | .done f => R (.ok f) s' | .again c' => c'.quiet = true ∧ codeAny (model prog w) A c' R s') (fun e s' => R (.error e) s') { s0 with heap := h, toks := tk, gens := base.push gs } := by
  have hSG : S ≠ G := P2.1
  refine wpAny_bind (wpAny_rule ?_)
  refine wpAny_bind ?_
  show wpAny _ A.in1 (updateSeq S (·.push .none) >>= fun _ => updateSeq S (·.pop)) _ _ _
  have hS3 := Heap.get?_update_self (Obj.mapSeq (·.push Value.none)) P2.list rfl
  refine wpAny_bind (wpAny_updateSeq P2.list rfl ?_)
  refine wpAny_updateSeq (hz := by seq_fits) hS3 rfl ?_
  have oth : ∀ b o, b ≠ S → h.get? b = some o → ((h.update S (Obj.mapSeq (·.push Value.none))).update S (Obj.mapSeq (·.pop))).get? b = some o :=
    fun b o hb e => (Heap.get?_update_other _ _ (Ne.symm hb)).trans ((Heap.get?_update_other _ _ (Ne.symm hb)).trans e)
  have P4 : LxP w g C x dx f df z l la ld m₁ S G (genObj base.size nm qn) all ((h.update S (Obj.mapSeq (·.push Value.none))).update S (Obj.mapSeq (·.pop))) [] (c₀ + 2) := by
    obtain ⟨mu, Q⟩ := P2.2.2
    refine ⟨hSG, trivial, mu, Q.moves (S := S) ⟨_, .head _⟩ oth (fun p hp => ?_) (fun p hp => ?_)⟩
    · rcases List.mem_cons.mp hp with rfl | hp
      · exact Heap.get?_update_self (Obj.mapSeq (·.pop)) hS3 rfl
      · rcases List.mem_cons.mp hp with rfl | hp
        · exact oth _ _ (Ne.symm hSG) P2.gen
        · cases hp
    · rcases List.mem_cons.mp hp with rfl | hp
      · exact ⟨_, .head _, rfl⟩
      · rcases List.mem_cons.mp hp with rfl | hp
        · exact ⟨_, .tail _ (.head _), rfl⟩
        · cases hp
  exact wpAny_pure ⟨plainId_quiet F.plain_extend_loop _, lx_gen_loop hh T hroom hall hR all.length all [] (c₀ + 2) gs _ tk rfl (by simp) P4 hgo⟩
theorem lx_list_init (hh : A.handled = none) (T : ∀ h : Heap, (∀ b o, g.get? b = some o → h.get? b = some o) → h.NoLimit) (hroom : A.depth < recursionLimit) (hall : all.length ≤ 1000)
    (hR : ∀ es c h tk, es.map TkE.tk = all → LxP w g C x dx f df z l la ld m₁ S G (genObj base.size nm qn) [] h es c → R (.ok (.ret .none)) { s0 with heap := h, toks := tk, gens := base.push .finished })
    {h : Heap} {tk : Nat} {gs : GenState} (P : LxP w g C x dx f df z l la ld m₁ S G (genObj base.size nm qn) all h [] 0)
    (hgo : ∀ s c', LxP w g C x dx f df z l la ld m₁ S G (genObj base.size nm qn) all s.heap [] c' →
        gs.Goes (model prog w) A.in1.in1 (fun n s₀ r s₁ => r = .ok (.ret .none) ∧ LxEnd w g C x dx f df z l la ld m₁ S G (genObj base.size nm qn) all n s₀ s₁) (LxY w g C x dx f df z l la ld m₁ S G (genObj base.size nm qn) all) all.length (.send .none) s) :
    wpAny (model prog w) A.in1 (Builtin.«list.__init__» ⟨[.ref S, .ref G], []⟩)
      (fun fin s' => match fin with | .done f => R (.ok f) s' | .again c' => c'.quiet = true ∧ codeAny (model prog w) A c' R s') (fun e s' => R (.error e) s') { s0 with heap := h, toks := tk, gens := base.push gs } := by
  have hSG : S ≠ G := P.1
  have isG : ∀ {h' : Heap} {es c}, LxP w g C x dx f df z l la ld m₁ S G (genObj base.size nm qn) all h' es c → h'.IsGen G base.size := fun P => ⟨_, nm, qn, P.gen, rfl, rfl, rfl⟩
  show wpAny _ A.in1 (do let old ← Builtin.List.listItems (.ref S); Builtin.List.listUpdate (.ref S) (fun _ => #[]); letGo old.toList.reverse; Builtin.List.listExtendWith (.ref S) (.ref G) .none) _ _ _
  refine wpAny_bind ?_
  unfold Builtin.List.listItems
  refine wpAny_bind (wpAny_seqItems P.list rfl (wpAny_pure ?_))
  show wpAny _ A.in1 (updateSeq S (fun _ => #[]) >>= fun _ => letGo (#[] : Array Value).toList.reverse >>= fun _ => Builtin.List.listExtendWith (.ref S) (.ref G) .none) _ _ _
  have P2 : LxP w g C x dx f df z l la ld m₁ S G (genObj base.size nm qn) all (h.update S (Obj.mapSeq (fun _ => (#[] : Array Value)))) [] 0 := LxP.upd (extra := []) hSG P.2.1 rfl trivial P.2.2 rfl
  refine wpAny_bind (wpAny_updateSeq P.list rfl ?_)
  refine wpAny_bind (wpAny_letGo ?_)
  unfold Builtin.List.listExtendWith
  refine wpAny_bind (wpAny_typeOf (isG P2).typeIs ?_)
  have h1 : Builtin.List.listSameRef (.ref S) (.ref G) = false := by simp [Builtin.List.listSameRef, hSG]
  have h2 : (Value.type "generator" == Value.type "list") = false := by decide
  have h3 : (Value.type "generator" == Value.type "tuple") = false := by decide
  simp only [h1, h2, h3, Bool.or_false, Bool.false_eq_true, if_false]
  refine wpAny_bind (wpAny_pyIter_gen (isG P2) ?_)
  refine wpAny_bind (wpAny_holding ?_)
  unfold Builtin.List.listLengthHint
  refine wpAny_bind (wpAny_specialOf (isG P2).typeIs F.gen_no_len ?_)
  show wpAny _ A.in1 (specialOf (Value.ref G) (Str.ofString "__length_hint__") >>= _) _ _ _
  refine wpAny_bind (wpAny_specialOf (isG P2).typeIs F.gen_no_hint ?_)
  refine wpAny_pure ?_
  exact lx_list_rest hh T hroom hall hR P2 hgo
end
section
variable {prog : Program} {w : World} {dp un : Nat} {gd : Option (List Code)} {cn : Str} {cs : Scope} {a : Addr} {ccd : Value} {cl : List (Str × Addr)} {outer : List Env} {h₀ : Heap} {L : Addr} {m : Str → Option Value} {s : Shared} {Q E : Value → Shared → Prop}
    {x : Nat} {rest : List (Addr × Obj)} {all : List (String × List Nat)} {base : Array GenState} {G : Nat}
theorem lx_list_told {g : Heap} {C dx f df : Nat} {z : SioT} {l : List Nat} {la ld : Int} {m₁ : Str → Option Value} {S G : Nat} {gob : Obj} {h' : Heap} {es : List TkE} {c : Nat} (P : LxP w g C x dx f df z l la ld m₁ S G gob [] h' es c)
    (bk : ∀ h' : Heap, (∀ b o, g.get? b = some o → h'.get? b = some o) → Fr h₀ L h' m ∧ News h₀ L h' rest) (of : ∀ q : Addr, g.get? q = none → AllNe q rest ∧ q ≠ L ∧ h₀.get? q = none) :
    Fr h₀ L h' m ∧ News h₀ L h' ((S, listOf (es.map TkE.val).toArray c) :: (es.map TkE.ob ++ rest)) ∧ AllNe S rest ∧ (∀ e ∈ es, AllNe e.t rest) ∧ (∀ e ∈ es, S ≠ e.t) := by
  obtain ⟨F', N'⟩ := bk h' P.keep
  obtain ⟨h1, h2, mu, Q⟩ := P
  have N := Q.news
  have hm : ∀ e ∈ es, e.ob ∈ restOf S G gob es c := fun e he => .tail _ (.tail _ (List.mem_map_of_mem he))
  refine ⟨F', fun p hp => ?_, (of S (N _ (.head _)).2.2).1, fun e he => (of e.t (N _ (hm e he)).2.2).1, fun e he => h2.at _ (List.mem_map_of_mem he)⟩
  rcases List.mem_cons.mp hp with rfl | hp
  · exact ⟨(N _ (.head _)).1, (of S (N _ (.head _)).2.2).2⟩
  · rcases List.mem_append.mp hp with hp | hp
    · obtain ⟨e, he, rfl⟩ := List.mem_map.mp hp
      exact ⟨(N _ (hm e he)).1, (of e.t (N _ (hm e he)).2.2).2⟩
    · exact N' p hp
theorem lx_list_at (X : LxGenAt prog w dp un gd cn cs a ccd cl outer h₀ L m x [] rest all base s.gens G s.heap) (hcs : cs.kind = .function) (hdp : dp + 16 < recursionLimit) (hun : un + 210 < cLine) (hall : all.length ≤ 1000)
    (hQ : ∀ (S : Nat) (es : List TkE) (c : Nat) (h' : Heap) (tk' : Nat), es.map TkE.tk = all → Fr h₀ L h' m → News h₀ L h' ((S, listOf (es.map TkE.val).toArray c) :: (es.map TkE.ob ++ rest)) → AllNe S rest → (∀ e ∈ es, AllNe e.t rest) → (∀ e ∈ es, S ≠ e.t) →
      Q (.ref S) { s with heap := h', toks := tk', gens := base.push .finished }) :
    wpAny (model prog w) (ktrTop dp un gd cn cs L a ccd cl outer) (call (.type "list") [.ref G]) Q E s := by
  obtain ⟨g, bb, C, dx, f, df, z, l, la, ld, m₁, gs, nm, qn, hg, ⟨mu, PI⟩, rd, T, bk, of, kp0, BB⟩ := X
  obtain ⟨h, gens, dr, tk, os⟩ := s
  dsimp only at hg PI
  subst hg
  have NG := PI.news _ (.head _)
  have hGlt : G < h.objs.size := Heap.lt_size NG.1
  obtain ⟨mF, FF⟩ := PI.fr
  refine callType_codes (Q₁ := fun obj s₁ => obj = .ref h.objs.size ∧ s₁ = { (⟨h, base.push gs, dr, tk, os⟩ : Shared) with heap := h.push { cls := .type "list", data := .seq #[] } }) F.called_list (F.typeCall_list_1 _) F.entry_list_init
    (code_list_new _ ⟨rfl, rfl⟩) fun obj s₁ h₁ => ?_
  obtain ⟨rfl, rfl⟩ := h₁
  have hS : (h.push { cls := .type "list", data := .seq #[] }).get? h.objs.size = some { cls := .type "list", data := .seq #[] } := Heap.get?_push_size _ rfl
  have hSG : h.objs.size ≠ G := Nat.ne_of_gt hGlt
  have hgS : g.get? h.objs.size = none := by
    cases q : g.get? h.objs.size with
    | none => rfl
    | some o => exact absurd (Heap.lt_size (FF.keep _ _ q)) (Nat.lt_irrefl _)
  have hSC : h.objs.size ≠ C := by
    obtain ⟨oL, es, ep, hL, r⟩ := FF.ns
    exact Nat.ne_of_gt (Heap.lt_size hL)
  have kp : ∀ b o, h.get? b = some o → (h.push { cls := .type "list", data := .seq #[] }).get? b = some o := fun b o e => Heap.get?_push_of_some _ e
  have PP : LxP w g C x dx f df z l la ld m₁ h.objs.size G (genObj base.size nm qn) all (h.push { cls := .type "list", data := .seq #[] }) [] 0 := by
    refine ⟨hSG, trivial, mu, ?_⟩
    have fr : ∀ {m}, Fr g C h m → Fr g C (h.push { cls := .type "list", data := .seq #[] }) m := fun F => by
      obtain ⟨oL, es, ep, hL, r⟩ := F.ns
      exact ⟨⟨oL, es, ep, kp _ _ hL, r⟩, fun b o e => kp _ _ (F.keep b o e), F.above⟩
    have nw : ∀ {led : List (Addr × Obj)}, News g C h (led ++ [(G, genObj base.size nm qn)]) → News g C (h.push { cls := .type "list", data := .seq #[] }) (led ++ restOf h.objs.size G (genObj base.size nm qn) [] 0) := fun {led} N p hp => by
      rcases List.mem_append.mp hp with hp | hp
      · exact ⟨kp _ _ (N p (List.mem_append_left _ hp)).1, (N p (List.mem_append_left _ hp)).2⟩
      · rcases List.mem_cons.mp hp with rfl | hp
        · exact ⟨hS, hSC, hgS⟩
        · have N' := N p (List.mem_append_right _ hp)
          exact ⟨kp _ _ N'.1, N'.2⟩
    have of : ∀ {led : List (Addr × Obj)}, News g C h (led ++ [(G, genObj base.size nm qn)]) → LxOff led [(G, genObj base.size nm qn)] → LxOff led (restOf h.objs.size G (genObj base.size nm qn) [] 0) := fun {led} N O a ha b hb => by
      rcases List.mem_cons.mp hb with rfl | hb
      · exact Nat.ne_of_lt (Heap.lt_size (N a (List.mem_append_left _ ha)).1)
      · exact O a ha b hb
    cases PI with
    | run F N O a b => exact .run (fr F) (nw N) (of N O) a b
    | stop F N O a b => exact .stop (fr F) (nw N) (of N O) a b
  refine ⟨⟨_, hS, rfl⟩, F.args_list_init_2 _ _, lx_list_init (A := ktrTop dp (un + 1) gd cn cs L a ccd cl outer) (all := all) (s0 := ⟨h, base.push gs, dr, tk, os⟩) (R := wants (fun r s₂ => r = .none ∧ Q (.ref h.objs.size) s₂) E) rfl T (show dp < recursionLimit by omega) hall (fun es c h' tk' he P' => ⟨rfl, ?_⟩) PP
    fun s c' P' => rd dp (un + 3) gd cn cs L a ccd cl outer bb (below_units BB rfl fun _ _ e => e) hcs hdp (by omega) _ _ _ s c' P'⟩
  obtain ⟨F', N', r1, r2, r3⟩ := lx_list_told P' bk of
  exact hQ _ es c h' tk' he F' N' r1 r2 r3
end
end
section
theorem reset17 : True := by
  w_top off
  trivial
/-! ### the lines (local) -/
local macro_rules | `(tactic| k_in) => `(tactic| first | with_reducible assumption | exact Frag.In.keeps (by with_reducible assumption) (Fr.keep (by with_reducible assumption)) | exact Frag.In.keeps (by with_reducible assumption) (Fr.keep (by k_asm)))
local macro_rules | `(tactic| k_room) => `(tactic| ktr_room)
/- entry into a def whose ledger is a part of the caller's -/
local macro_rules | `(tactic| ktr_enter) => `(tactic| (refine' code_lx ?k1 ?k2 ?k3 ?k4 ?kO ?k5 ?kA ?kF ?kK ?k6 ?k7 ?k8 ?k9 ?kB ?_ ?c2 ?c3 ?c4 ?c5; (case kA => exact rfl); (case kF => exact rfl); (case kK => first | exact rfl | assumption); (case k1 => k_asm); (case k2 => k_asm); (case k3 => k_asm); (case k4 => k_asm); (case kO => assumption); (case k5 => k_asm); (case k6 => k_is); (case k7 => k_is); (case k8 => k_room); (case k9 => first | exact BindsTo.of_eq rfl | exact binds_K (by k_in) rfl (by k_is) rfl rfl rfl | fail "k_enter: no rule for these arguments"); (case c5 => decide); (case kB => exact locs rfl); (case c2 => exact rfl); (case c3 => exact rfl); (case c4 => exact rfl); k_whole; intro g' L' h' FG' F' N' B' X' T' l1; (try k_lt l1); (try dsimp only); (try k_lift B'); (try k_fold)))
/- apartness -/
local macro_rules | `(tactic| ktr_rel) => `(tactic| first | assumption | ((try simp only [List.cons_append, List.nil_append, List.append_nil]); repeat (first | exact LxOff.nil | refine LxOff.cons (by k_all) ?_)))
/- a dict of six written entries and a tail -/
local macro_rules | `(tactic| k_get) => `(tactic| first
  | (refine' get6_hit ?hm ?h; (case hm => assumption); (case h => k_get))
  | (refine' get6_miss ?hm ?n1 ?n2 ?h; (case hm => assumption); (case n1 => decide +kernel); (case n2 => decide +kernel); (case h => k_get))
  | (refine' get6_is ?hm ?h ?h2; (case hm => assumption); (case h => k_get); (case h2 => (intro h9; exact absurd (h9.symm.trans (by k_get)) (by nofun)))))
local macro_rules | `(tactic| k_put) => `(tactic| (refine' put6 ?hm ?h; (case hm => assumption); (case h => k_put)))
local macro_rules | `(tactic| walk_at "setAttr ref") => `(tactic| (k_here; k_dflt ((refine' set_dict ?k1 ?k2 ?k3 ?k4 ?k5 ?k6 ?k7 ?k8 ?k9 ?k10 ?k11 ?k12 ?k13 ?_; (case k1 => k_asm); (case k2 => k_asm); (case k3 => k_asm); (case k4 => k_inst); (case k5 => exact rfl); (case k6 => k_is); (case k7 => k_is); (case k8 => k_is); (case k9 => k_is); (case k10 => k_get); (case k11 => k_put); (case k12 => k_upd); (case k13 => first | exact Nat.le_of_ble_eq_true rfl | (have h9 := MoreOk.len (by assumption); simp only [List.length_cons]; omega)); k_whole; intro h' F' N'; (try k_sweep)))))
local macro_rules | `(tactic| walk_at "call builtin:list.extend") => `(tactic| (k_here; (with_reducible show wpAny _ _ (call (Value.builtin _) [Value.ref _, Value.str _ _]) _ _ _); k_dflt (first
  | (refine' lx_extend0 ?hh ?F ?N ?D ?_; (case hh => exact rfl); (case F => k_asm); (case N => k_asm); (case D => k_mem); intro h' tk' F' N'; (try k_sweep))
  | (refine' lx_extend1 ?hh ?F ?N ?U ?_; (case hh => exact rfl); (case F => k_asm); (case N => k_asm); (case U => k_updF); intro h' tk' u' c' F' N'; (try dsimp only at N'); (try k_sweep)))))
local macro_rules | `(tactic| walk_at "call type:list") => `(tactic| (k_here; (with_reducible show wpAny _ _ (call (Value.type _) [Value.str _ _]) _ _ _); k_dflt (first
  | (refine' lx_list0 ?hh ?F ?N ?_; (case hh => exact rfl); (case F => k_asm); (case N => k_asm); intro p' h' tk' c' F' N' l1; (try k_lt l1); (try k_sweep))
  | (refine' lx_list1 ?hh ?F ?N ?_; (case hh => exact rfl); (case F => k_asm); (case N => k_asm); intro p' h' tk' u' c' F' N' l1; (try k_lt l1); (try k_sweep)))))
local macro_rules | `(tactic| tb_rel) => `(tactic| (refine' cb_drop ?cN ?cS; (case cN => assumption); (case cS => (repeat (first | exact List.forall_mem_nil _ | refine List.forall_mem_cons.mpr ⟨by k_mem, ?_⟩)))))
/-! ### segments told for the walk -/
def LxIf (b : Bool) (P Q : Prop) : Prop := if b = true then P else Q
theorem LxIf.yes {P Q : Prop} (h : P) : LxIf true P Q := h
theorem LxIf.no {P Q : Prop} (h : Q) : LxIf false P Q := h
theorem LxSeg.mk {P : Prop} (h : P) : LxSeg P := h
section
variable {prog : Program} {w : World} {dp un : Nat} {gdl : Option (List Code)} {fr : List Env} {R : GenEnd} {Y : Protocol} {n : Nat} {s₀ : Shared} {s : Shared} {env env' : Env}
  {K : Flow → Sem Fin} {H : Value → Sem Fin} {gd : Bool → Bool} {lv : List Value → List Value} {k : Result → Sem Fin} {lf : List Value} {b' : List Stmt} {p : Pos}
theorem seg_ind {M : Model} {A : Around} {c : Code} {t : Sem Fin} {fs : List Frame} (I : Nat → List (String × List Nat) → Shared → Shared → Prop)
    (step : ∀ mu ks s₀ s, I mu ks s₀ s → (∀ mu' ks' s₀' s', ks'.length < ks.length ∨ (ks'.length = ks.length ∧ mu' < mu) → I mu' ks' s₀' s' → Seg M A R Y ks'.length s₀' c t fs s') → Seg M A R Y ks.length s₀ c t fs s) :
    ∀ mu ks s₀ s, I mu ks s₀ s → Seg M A R Y ks.length s₀ c t fs s := by
  have key : ∀ N B mu ks s₀ s, List.length ks < N → mu < B → I mu ks s₀ s → Seg M A R Y ks.length s₀ c t fs s := by
    intro N
    induction N with
    | zero => intro B mu ks _ _ h; exact absurd h (Nat.not_lt_zero _)
    | succ N ih =>
      intro B
      induction B with
      | zero => intro mu ks _ _ _ h; exact absurd h (Nat.not_lt_zero _)
      | succ B ih2 =>
        intro mu ks s₀ s hN hB h
        refine step mu ks s₀ s h fun mu' ks' s₀' s' hlt h' => ?_
        rcases hlt with hlt | ⟨he, hlt⟩
        · exact ih (mu' + 1) mu' ks' s₀' s' (by omega) (Nat.lt_succ_self _) h'
        · exact ih2 mu' ks' s₀' s' (by omega) (by omega) h'
  exact fun mu ks s₀ s h => key (ks.length + 1) (mu + 1) mu ks s₀ s (Nat.lt_succ_self _) (Nat.lt_succ_self _) h
theorem seg_while_lx {test : PySem.Expr} {body orelse : List Stmt}
    (h : wpAny (model prog w) ((Around.mk none dp (some fr) gdl un).deeper env') (isTrue test env (eval test env)) (fun b s' => LxIf b
        (Seg (model prog w) (Around.mk none dp (some fr) gdl un) R Y n s₀ (.whileLoop test body orelse env) ((execs body env).wrap (fun f => match f with
            | .next | .cont => .pure (.again (.whileLoop test body orelse env))
            | .brk => .pure (.done .next)
            | .ret v => .pure (.done (.ret v))) (fun e => (do noteFrame e env; theTreesLotGoes e : Sem Unit).wrap (fun _ => .raise e) .raise id id) id id) [.ret k none false lf (.func b' env') p []] s')
        (Seg (model prog w) (Around.mk none dp (some fr) gdl un) R Y n s₀ (.whileLoop test body orelse env) ((execs orelse env).wrap (fun f => .pure (.done f)) (fun e => (do noteFrame e env; theTreesLotGoes e : Sem Unit).wrap (fun _ => .raise e) .raise id id) id id) [.ret k none false lf (.func b' env') p []] s'))
      (fun _ _ => False) s) :
    Seg (model prog w) (Around.mk none dp (some fr) gdl un) R Y n s₀ (.whileLoop test body orelse env) ((model prog w).den (.whileLoop test body orelse env)) [.ret k none false lf (.func b' env') p []] s := by
  refine seg_whileLoop ?_
  rw [over_loop]
  exact wpAny_mono h (fun _ _ h => h) fun _ _ h => h.elim
theorem seg_step_lx {test : PySem.Expr} {body orelse : List Stmt} {st : Stmt} {rest : List Stmt}
    (h : wpAny (model prog w) ((Around.mk none dp (some fr) gdl un).deeper env') (exec st env) (fun f s' => f = .next ∧ LxSeg (Seg (model prog w) (Around.mk none dp (some fr) gdl un) R Y n s₀ (.whileLoop test body orelse env) ((execs rest env).wrap K H gd lv) [.ret k none false lf (.func b' env') p []] s')) (fun _ _ => False) s) :
    Seg (model prog w) (Around.mk none dp (some fr) gdl un) R Y n s₀ (.whileLoop test body orelse env) ((execs (st :: rest) env).wrap K H gd lv) [.ret k none false lf (.func b' env') p []] s := by
  refine seg_execs_cons (seg_wrap ?_)
  rw [over_loop]
  exact wpAny_mono h (fun f _ h => by obtain ⟨rfl, h⟩ := h; exact h) fun _ _ h => h.elim
theorem seg_if_lx {test' test : PySem.Expr} {body' orelse' body orelse : List Stmt} {pos : Pos} 
    (h : wpAny (model prog w) ((Around.mk none dp (some fr) gdl un).deeper env') (isTrue test' env (eval test' env)) (fun b s' => LxIf b
      (Seg (model prog w) (Around.mk none dp (some fr) gdl un) R Y n s₀ (.whileLoop test body orelse env) ((execs body' env).wrap (fun f => match f with | .next => K .next | f => K f) H gd lv) [.ret k none false lf (.func b' env') p []] s')
      (Seg (model prog w) (Around.mk none dp (some fr) gdl un) R Y n s₀ (.whileLoop test body orelse env) ((execs orelse' env).wrap (fun f => match f with | .next => K .next | f => K f) H gd lv) [.ret k none false lf (.func b' env') p []] s')) (fun _ _ => False) s) :
    Seg (model prog w) (Around.mk none dp (some fr) gdl un) R Y n s₀ (.whileLoop test body orelse env) ((execs [.If test' body' orelse' pos] env).wrap K H gd lv) [.ret k none false lf (.func b' env') p []] s := by
  refine seg_execs_cons (seg_If ?_)
  rw [over_loop]
  exact wpAny_mono h (fun f _ h => h) fun _ _ h => h.elim
theorem seg_yield_lx {e test : PySem.Expr} {body orelse : List Stmt} {ypos pos : Pos} (hgd : gd false = false)
    (h : wpAny (model prog w) ((Around.mk none dp (some fr) gdl un).deeper env') (eval e env) (fun v s' => LxSeg (∀ kap : Resume → Shared → Prop,
        (∀ x s'', (match x with | .ref _ => False | _ => Seg (model prog w) (Around.mk none dp (some fr) gdl un) R Y n s'' (.whileLoop test body orelse env) (K .next) [.ret k none false lf (.func b' env') p []] s'') → kap (.send x) s'') → Y n s₀ v s' kap))
      (fun _ _ => False) s) (hco : env.scope.isCoroutine = false := by rfl) (hi : interactive env = false := by rfl) :
    Seg (model prog w) (Around.mk none dp (some fr) gdl un) R Y (n + 1) s₀ (.whileLoop test body orelse env) ((execs [.Expr (.Yield (some e) ypos) pos] env).wrap K H gd lv) [.ret k none false lf (.func b' env') p []] s := by
  refine seg_execs_cons (seg_Expr_Yield rfl hgd rfl ?_ hco hi)
  rw [over_loop]
  exact wpAny_mono h (fun f _ h => h) fun _ _ h => h.elim
end
/-- the call of a method of no argument, as the walk leaves it -/
theorem lx_app {M : Model} {A : Around} {f a : Value} {Q E : Value → Shared → Prop} {s : Shared} (h : wpAny M A (call f [a]) Q E s) : wpAny M A (call (f, [a]).fst ((f, [a]).snd ++ [])) Q E s := h
end
section
theorem reset18 : True := by
  w_top off
  trivial
/-! ### the lines (local) -/
local macro_rules | `(tactic| k_in) => `(tactic| first | with_reducible assumption | exact Frag.In.keeps (by with_reducible assumption) (Fr.keep (by with_reducible assumption)) | exact Frag.In.keeps (by with_reducible assumption) (Fr.keep (by k_asm)))
local macro_rules | `(tactic| k_room) => `(tactic| ktr_room)
/- entry into a def whose ledger is a part of the caller's -/
local macro_rules | `(tactic| ktr_enter) => `(tactic| (refine' code_lx ?k1 ?k2 ?k3 ?k4 ?kO ?k5 ?kA ?kF ?kK ?k6 ?k7 ?k8 ?k9 ?kB ?_ ?c2 ?c3 ?c4 ?c5; (case kA => exact rfl); (case kF => exact rfl); (case kK => first | exact rfl | assumption); (case k1 => k_asm); (case k2 => k_asm); (case k3 => k_asm); (case k4 => k_asm); (case kO => assumption); (case k5 => k_asm); (case k6 => k_is); (case k7 => k_is); (case k8 => k_room); (case k9 => first | exact BindsTo.of_eq rfl | exact binds_K (by k_in) rfl (by k_is) rfl rfl rfl | fail "k_enter: no rule for these arguments"); (case c5 => decide); (case kB => exact locs rfl); (case c2 => exact rfl); (case c3 => exact rfl); (case c4 => exact rfl); k_whole; intro g' L' h' FG' F' N' B' X' T' l1; (try k_lt l1); (try dsimp only); (try k_lift B'); (try k_fold)))
/- apartness -/
local macro_rules | `(tactic| ktr_rel) => `(tactic| first | assumption | ((try simp only [List.cons_append, List.nil_append, List.append_nil]); repeat (first | exact LxOff.nil | refine LxOff.cons (by k_all) ?_)))
/- a dict of six written entries and a tail -/
local macro_rules | `(tactic| k_get) => `(tactic| first
  | (refine' get6_hit ?hm ?h; (case hm => assumption); (case h => k_get))
  | (refine' get6_miss ?hm ?n1 ?n2 ?h; (case hm => assumption); (case n1 => decide +kernel); (case n2 => decide +kernel); (case h => k_get))
  | (refine' get6_is ?hm ?h ?h2; (case hm => assumption); (case h => k_get); (case h2 => (intro h9; exact absurd (h9.symm.trans (by k_get)) (by nofun)))))
local macro_rules | `(tactic| k_put) => `(tactic| (refine' put6 ?hm ?h; (case hm => assumption); (case h => k_put)))
local macro_rules | `(tactic| walk_at "setAttr ref") => `(tactic| (k_here; k_dflt ((refine' set_dict ?k1 ?k2 ?k3 ?k4 ?k5 ?k6 ?k7 ?k8 ?k9 ?k10 ?k11 ?k12 ?k13 ?_; (case k1 => k_asm); (case k2 => k_asm); (case k3 => k_asm); (case k4 => k_inst); (case k5 => exact rfl); (case k6 => k_is); (case k7 => k_is); (case k8 => k_is); (case k9 => k_is); (case k10 => k_get); (case k11 => k_put); (case k12 => k_upd); (case k13 => first | exact Nat.le_of_ble_eq_true rfl | (have h9 := MoreOk.len (by assumption); simp only [List.length_cons]; omega)); k_whole; intro h' F' N'; (try k_sweep)))))
local macro_rules | `(tactic| walk_at "call builtin:list.extend") => `(tactic| (k_here; (with_reducible show wpAny _ _ (call (Value.builtin _) [Value.ref _, Value.str _ _]) _ _ _); k_dflt (first
  | (refine' lx_extend0 ?hh ?F ?N ?D ?_; (case hh => exact rfl); (case F => k_asm); (case N => k_asm); (case D => k_mem); intro h' tk' F' N'; (try k_sweep))
  | (refine' lx_extend1 ?hh ?F ?N ?U ?_; (case hh => exact rfl); (case F => k_asm); (case N => k_asm); (case U => k_updF); intro h' tk' u' c' F' N'; (try dsimp only at N'); (try k_sweep)))))
local macro_rules | `(tactic| walk_at "call type:list") => `(tactic| (k_here; (with_reducible show wpAny _ _ (call (Value.type _) [Value.str _ _]) _ _ _); k_dflt (first
  | (refine' lx_list0 ?hh ?F ?N ?_; (case hh => exact rfl); (case F => k_asm); (case N => k_asm); intro p' h' tk' c' F' N' l1; (try k_lt l1); (try k_sweep))
  | (refine' lx_list1 ?hh ?F ?N ?_; (case hh => exact rfl); (case F => k_asm); (case N => k_asm); intro p' h' tk' u' c' F' N' l1; (try k_lt l1); (try k_sweep)))))
local macro_rules | `(tactic| tb_rel) => `(tactic| (refine' cb_drop ?cN ?cS; (case cN => assumption); (case cS => (repeat (first | exact List.forall_mem_nil _ | refine List.forall_mem_cons.mpr ⟨by k_mem, ?_⟩)))))
/-! ### a call that tells what stays -/
theorem code_lx_bk {prog : Program} {w : World} {A A₀ : Around} {s : Shared} {K : Frag} {L : Addr} {h₀ base : Heap} {m mg mb : Str → Option Value} {p : Program} {loose : List Str} {mean : ExcName → Option Value}
    {env : Env} {outer : List Env} {R : Result → Shared → Prop} {name qual : Str} {params : Arguments} {body : List Stmt} {scope : Scope} {dV kV doc pm cdv ct oc : Value} {an od : Option Addr} {osl : Array (Option Value)} {f : Addr} {args : Args} {binds : List (Str × Value)}
    {pre led post : List (Addr × Obj)}
    (B : Below A₀ base outer h₀) (F : Fr h₀ L s.heap m) (X₀ : K.In h₀) (N : News h₀ L s.heap (pre ++ (led ++ post))) (hoff : LxOff led (pre ++ post)) (T : Top p loose mean mg mb h₀) (hA : A.frames = some (env :: outer)) (hf : env.frame = some L) (hke : env.scope.kind = .function)
    (ho : K.lookup f = some ⟨oc, od, .func (fnOf name qual params body scope dV kV doc pm an cdv ct), osl⟩) (hcd : codeIn K cdv qual = true) (hroom : A.depth < recursionLimit)
    (hbind : BindsTo s (fnOf name qual params body scope dV kV doc pm an cdv ct) args binds) (hloc : ∀ y ∈ binds, scope.names.lookup y.1 = some .local)
    (h : ∀ g L' h₁, Fr h₀ L g m → Fr g L' h₁ (fun y => binds.reverse.lookup y) → News g L' h₁ led → Below A base (env :: outer) g → K.In g → Top p loose mean mg mb g → (∀ p ∈ led, p.1 < L') →
      (∀ h' : Heap, (∀ b o, g.get? b = some o → h'.get? b = some o) → Fr h₀ L h' m ∧ News h₀ L h' (pre ++ post)) → (∀ q : Addr, g.get? q = none → AllNe q (pre ++ post) ∧ q ≠ L ∧ h₀.get? q = none) → (∀ b o, h₀.get? b = some o → g.get? b = some o) →
      wpAny (model prog w) (A.deeper (envOf qual scope L' f cdv)) (execs body (envOf qual scope L' f cdv))
        (fun fl s' => LeaveK h₀ L m g (LxBack g h₀ L pre post R) (match fl with | .ret v => v | _ => .none) s')
        (fun e s' => wpAny (model prog w) (A.deeper (envOf qual scope L' f cdv)) (leaving (envOf qual scope L' f cdv) e) (fun _ s'' => R (.error e) s'') (fun e' s'' => R (.error e') s'') s')
        { s with heap := h₁, toks := s.toks + binds.length })
    (hco : scope.isCoroutine = false) (hgen : scope.isGenerator = false) (hk : scope.kind = .function)
    (hcell : ∀ x ∈ scope.names, x.2 ≠ .cell) : codeAny (model prog w) A (.call (.ref f) args) R s := by
  have Nl : News h₀ L s.heap led := fun q hq => N q (List.mem_append_right _ (List.mem_append_left _ hq))
  have Nr : News h₀ L s.heap (pre ++ post) := fun q hq => N q (by
    rcases List.mem_append.mp hq with h | h
    · exact List.mem_append_left _ h
    · exact List.mem_append_right _ (List.mem_append_right _ h))
  obtain ⟨FG, BG, st, _⟩ := groundX (R := R) B F Nl hA hf hke
  obtain ⟨_, _, _, lv⟩ := groundX (R := LxBack (hideAll s.heap (led.map (·.1))) h₀ L pre post R) B F Nl hA hf hke
  have X := X₀.keeps F.keep
  have NG : ∀ q ∈ pre ++ post, (hideAll s.heap (led.map (·.1))).get? q.1 = some q.2 := fun q hq => hideAll_get _ (Nr q hq).1 fun hm => by
    obtain ⟨p, hp, e⟩ := List.mem_map.mp hm
    exact hoff p hp q hq e
  obtain ⟨oL, es, ep, hL, hLd, hLk, hLf⟩ := FG.ns
  refine codeAny_call_def (fd := fnOf name qual params body scope dV kV doc pm an cdv ct) (body := body) (binds := binds) hroom (X _ _ ho) rfl (T.nolimit.keeps F.keep) (codeRec_of X hcd) rfl hbind hcell hloc (fun h₁ hns hk₁ => ?_) hco hgen hk
  refine wpAny_mono (h _ s.heap.objs.size h₁ FG ⟨hns, fun b o e => hk₁ b o (of_hideAll _ e), Nat.le_of_eq (hideAll_size _ _)⟩
    (fun p hp => ⟨hk₁ _ _ (Nl p hp).1, Nat.ne_of_lt (Heap.lt_size (Nl p hp).1), hideAll_none _ (List.mem_map_of_mem hp)⟩) BG (X₀.keeps st) (T.keeps st) (fun p hp => Heap.lt_size (Nl p hp).1)
    (fun h' k => ⟨⟨⟨oL, es, ep, k L oL hL, hLd, hLk, hLf⟩, fun b o e => k b o (st b o e), F.above⟩, fun q hq => ⟨k _ _ (NG q hq), (Nr q hq).2⟩⟩) (fun q hq => ⟨allNe_of fun p hp e => (by rw [e, NG p hp] at hq; cases hq), fun e => (by rw [e, hL] at hq; cases hq), (by
      cases r : h₀.get? q with
      | none => rfl
      | some o => rw [st _ _ r] at hq; cases hq)⟩) st) (fun fl s' hl => ?_) fun _ _ y => y
  have keepR : ∀ s' : Shared, (∀ b o, (hideAll s.heap (led.map (·.1))).get? b = some o → s'.heap.get? b = some o) → ∀ q ∈ pre ++ post, s'.heap.get? q.1 = some q.2 := fun s' k q hq =>
    k _ _ (hideAll_get _ (Nr q hq).1 fun hm => by
      obtain ⟨p, hp, e⟩ := List.mem_map.mp hm
      exact hoff p hp q hq e)
  have hl' := hl
  obtain ⟨L', m', news', F', N', k⟩ := hl
  refine lv _ _ hl' ?_
  intro led' L'' N1 N2
  have kk := keepR s' F'.keep
  refine ⟨fun q hq => ?_, fun p hp q hq e => ?_⟩
  · rcases List.mem_append.mp hq with h | h
    · exact ⟨kk q (List.mem_append_left _ h), (Nr q (List.mem_append_left _ h)).2⟩
    · rcases List.mem_append.mp h with h | h
      · exact N1 q h
      · exact ⟨kk q (List.mem_append_right _ h), (Nr q (List.mem_append_right _ h)).2⟩
  · have h1 := (N2 p hp).2.2
    have h2 : (hideAll s.heap (led.map (·.1))).get? q.1 = some q.2 := hideAll_get _ (Nr q hq).1 fun hm => by
      obtain ⟨p, hp, e⟩ := List.mem_map.mp hm
      exact hoff p hp q hq e
    rw [e, h2] at h1
    cases h1
end
section
theorem reset19 : True := by
  w_top off
  trivial
/-! ### the lines (local) -/
local macro_rules | `(tactic| k_in) => `(tactic| first | with_reducible assumption | exact Frag.In.keeps (by with_reducible assumption) (Fr.keep (by with_reducible assumption)) | exact Frag.In.keeps (by with_reducible assumption) (Fr.keep (by k_asm)))
local macro_rules | `(tactic| k_room) => `(tactic| ktr_room)
/- entry into a def whose ledger is a part of the caller's -/
local macro_rules | `(tactic| ktr_enter) => `(tactic| (refine' code_lx ?k1 ?k2 ?k3 ?k4 ?kO ?k5 ?kA ?kF ?kK ?k6 ?k7 ?k8 ?k9 ?kB ?_ ?c2 ?c3 ?c4 ?c5; (case kA => exact rfl); (case kF => exact rfl); (case kK => first | exact rfl | assumption); (case k1 => k_asm); (case k2 => k_asm); (case k3 => k_asm); (case k4 => k_asm); (case kO => assumption); (case k5 => k_asm); (case k6 => k_is); (case k7 => k_is); (case k8 => k_room); (case k9 => first | exact BindsTo.of_eq rfl | exact binds_K (by k_in) rfl (by k_is) rfl rfl rfl | fail "k_enter: no rule for these arguments"); (case c5 => decide); (case kB => exact locs rfl); (case c2 => exact rfl); (case c3 => exact rfl); (case c4 => exact rfl); k_whole; intro g' L' h' FG' F' N' B' X' T' l1; (try k_lt l1); (try dsimp only); (try k_lift B'); (try k_fold)))
/- apartness -/
local macro_rules | `(tactic| ktr_rel) => `(tactic| first | assumption | ((try simp only [List.cons_append, List.nil_append, List.append_nil]); repeat (first | exact LxOff.nil | refine LxOff.cons (by k_all) ?_)))
/- a dict of six written entries and a tail -/
local macro_rules | `(tactic| k_get) => `(tactic| first
  | (refine' get6_hit ?hm ?h; (case hm => assumption); (case h => k_get))
  | (refine' get6_miss ?hm ?n1 ?n2 ?h; (case hm => assumption); (case n1 => decide +kernel); (case n2 => decide +kernel); (case h => k_get))
  | (refine' get6_is ?hm ?h ?h2; (case hm => assumption); (case h => k_get); (case h2 => (intro h9; exact absurd (h9.symm.trans (by k_get)) (by nofun)))))
local macro_rules | `(tactic| k_put) => `(tactic| (refine' put6 ?hm ?h; (case hm => assumption); (case h => k_put)))
local macro_rules | `(tactic| walk_at "setAttr ref") => `(tactic| (k_here; k_dflt ((refine' set_dict ?k1 ?k2 ?k3 ?k4 ?k5 ?k6 ?k7 ?k8 ?k9 ?k10 ?k11 ?k12 ?k13 ?_; (case k1 => k_asm); (case k2 => k_asm); (case k3 => k_asm); (case k4 => k_inst); (case k5 => exact rfl); (case k6 => k_is); (case k7 => k_is); (case k8 => k_is); (case k9 => k_is); (case k10 => k_get); (case k11 => k_put); (case k12 => k_upd); (case k13 => first | exact Nat.le_of_ble_eq_true rfl | (have h9 := MoreOk.len (by assumption); simp only [List.length_cons]; omega)); k_whole; intro h' F' N'; (try k_sweep)))))
local macro_rules | `(tactic| walk_at "call builtin:list.extend") => `(tactic| (k_here; (with_reducible show wpAny _ _ (call (Value.builtin _) [Value.ref _, Value.str _ _]) _ _ _); k_dflt (first
  | (refine' lx_extend0 ?hh ?F ?N ?D ?_; (case hh => exact rfl); (case F => k_asm); (case N => k_asm); (case D => k_mem); intro h' tk' F' N'; (try k_sweep))
  | (refine' lx_extend1 ?hh ?F ?N ?U ?_; (case hh => exact rfl); (case F => k_asm); (case N => k_asm); (case U => k_updF); intro h' tk' u' c' F' N'; (try dsimp only at N'); (try k_sweep)))))
local macro_rules | `(tactic| walk_at "call type:list") => `(tactic| (k_here; (with_reducible show wpAny _ _ (call (Value.type _) [Value.str _ _]) _ _ _); k_dflt (first
  | (refine' lx_list0 ?hh ?F ?N ?_; (case hh => exact rfl); (case F => k_asm); (case N => k_asm); intro p' h' tk' c' F' N' l1; (try k_lt l1); (try k_sweep))
  | (refine' lx_list1 ?hh ?F ?N ?_; (case hh => exact rfl); (case F => k_asm); (case N => k_asm); intro p' h' tk' u' c' F' N' l1; (try k_lt l1); (try k_sweep)))))
local macro_rules | `(tactic| tb_rel) => `(tactic| (refine' cb_drop ?cN ?cS; (case cN => assumption); (case cS => (repeat (first | exact List.forall_mem_nil _ | refine List.forall_mem_cons.mpr ⟨by k_mem, ?_⟩)))))
/- the call of a def by its contract: ktr_call CONTRACT PRE -/
local macro_rules | `(tactic| ktr_unf) => `(tactic| (intros; (with_reducible rename News _ _ _ _ => N9); (try simp only [List.cons_append, List.nil_append] at N9); (try dsimp only); (try k_fold); (try k_sweep)))
local macro_rules | `(tactic| tb_start) => `(tactic| ((repeat' apply And.intro) <;> first | assumption | omega | rfl))
local macro_rules | `(tactic| ktr_call $x:term $c:term) => `(tactic| (refine' $x (pre := $c) ?k1 ?k2 ?k3 ?k4 ?k5 ?kK ?kd ?ku ?kO ?kS ?_; (case k4 => k_asm); (case kS => tb_start); (case k1 => k_asm); (case k2 => k_asm); (case k3 => k_asm); (case k5 => k_asm); (case kK => first | exact rfl | assumption); (case kd => ktr_room); (case ku => ktr_units); (case kO => ktr_rel); ktr_unf))
local macro_rules | `(tactic| walk_at "exec While") => `(tactic| (k_here; k_dflt (refine whl_start 100 ?_)))
local macro_rules | `(tactic| walk_at "exec While BoolOp") => `(tactic| (k_here; k_dflt (refine whl_start 100 ?_)))
local macro_rules | `(tactic| walk_at "call ref") => `(tactic| (k_here; (with_reducible show wpAny _ _ (call (Value.ref 515) [Value.ref _, Value.int _ _] []) _ _ _); k_dflt (first
  | ktr_call sioRead_e [] | ktr_call sioRead_e [_] | ktr_call sioRead_e [_, _] | ktr_call sioRead_e [_, _, _] | ktr_call sioRead_e [_, _, _, _]
  | ktr_call sioRead_c [] | ktr_call sioRead_c [_] | ktr_call sioRead_c [_, _] | ktr_call sioRead_c [_, _, _] | ktr_call sioRead_c [_, _, _, _]
  | ktr_call sioRead_0 [] | ktr_call sioRead_0 [_] | ktr_call sioRead_0 [_, _] | ktr_call sioRead_0 [_, _, _] | ktr_call sioRead_0 [_, _, _, _]
  | ktr_call sioRead [] | ktr_call sioRead [_] | ktr_call sioRead [_, _] | ktr_call sioRead [_, _, _] | ktr_call sioRead [_, _, _, _])))
/- a while is held; the contracts of read, peek, pushback -/
local macro_rules | `(tactic| walk_at "exec While") => `(tactic| (k_here; refine lx_hold ?_))
local macro_rules | `(tactic| walk_at "exec While BoolOp") => `(tactic| (k_here; refine lx_hold ?_))
local macro_rules | `(tactic| ktr_unf) => `(tactic| (intros; (try ((with_reducible rename AllNe _ _ => O9); simp only [List.cons_append, List.nil_append, AllNe, and_true] at O9)); (with_reducible rename News _ _ _ _ => N9); (try simp only [List.cons_append, List.nil_append] at N9); (try dsimp only); (try k_fold); (try k_sweep)))
local macro_rules | `(tactic| walk_at "call ref") => `(tactic| (k_here; (with_reducible show wpAny _ _ (call (Value.ref 616) [Value.ref _, Value.int _ _] []) _ _ _); k_dflt (first
  | ktr_call lexRead_u [] | ktr_call lexRead_u [_] | ktr_call lexRead_u [_, _] | ktr_call lexRead_u [_, _, _] | ktr_call lexRead_u [_, _, _, _])))
local macro_rules | `(tactic| walk_at "call ref") => `(tactic| (k_here; (with_reducible show wpAny _ _ (call (Value.ref 624) [Value.ref _, Value.int _ _] []) _ _ _); k_dflt (first
  | ktr_call lexPeek_u [] | ktr_call lexPeek_u [_] | ktr_call lexPeek_u [_, _] | ktr_call lexPeek_u [_, _, _] | ktr_call lexPeek_u [_, _, _, _])))
local macro_rules | `(tactic| walk_at "call ref") => `(tactic| (k_here; (with_reducible show wpAny _ _ (call (Value.ref 631) [Value.ref _, Value.str _ _] []) _ _ _); k_dflt (first
  | ktr_call lexPush_u [] | ktr_call lexPush_u [_] | ktr_call lexPush_u [_, _] | ktr_call lexPush_u [_, _, _] | ktr_call lexPush_u [_, _, _, _])))
local macro_rules | `(tactic| walk_at "call builtin:str.join") => `(tactic| (k_here; (with_reducible show wpAny _ _ (call (Value.builtin _) [Value.str _ _, Value.ref _]) _ _ _); k_dflt (refine' lx_join ?N ?D ?l ?_; (case N => k_asm); (case D => k_mem); (case l => first | assumption | omega)); intro t' k' hl'))
local macro_rules | `(tactic| walk_at "getAttr ref") => `(tactic| (k_here; (with_reducible show wpAny _ _ (getAttr (Value.ref _) (PySem.Str.ofString "minalpha") _) _ _ _); k_dflt (refine' lx_minalpha ?F ?X ?N ?x ?d ?m ?_; (case F => k_asm); (case X => k_in); (case N => k_asm); (case x => k_mem); (case d => k_mem); (case m => assumption); intro t')))
local macro_rules | `(tactic| walk_at "getAttr ref") => `(tactic| (k_here; (with_reducible show wpAny _ _ (getAttr (Value.ref _) (PySem.Str.ofString "mindigits") _) _ _ _); k_dflt (refine' lx_mindigits ?F ?X ?N ?x ?d ?m ?_; (case F => k_asm); (case X => k_in); (case N => k_asm); (case x => k_mem); (case d => k_mem); (case m => assumption); intro t')))
local macro_rules | `(tactic| walk_at "WhlIf") => `(tactic| (first | (refine WhlIf.yes (by assumption) ?_) | (refine WhlIf.no (by assumption) ?_)))
local macro_rules | `(tactic| walk_at "call builtin:list.append") => `(tactic| (k_here; (with_reducible show wpAny _ _ (call (Value.builtin _) [Value.ref _, Value.str _ _]) _ _ _); k_dflt (refine' lx_append ?F ?N ?l ?U ?_; (case F => k_asm); (case N => k_asm); (case U => k_upd); (case l => assumption); intro h' F' N'; (try k_sweep))))
local macro_rules | `(tactic| walk_at "call builtin:len") => `(tactic| (k_here; (with_reducible show wpAny _ _ (call (Value.builtin "len") [Value.ref _]) _ _ _); k_dflt (refine' lx_len ?N ?D ?l ?_; (case N => k_asm); (case D => k_mem); (case l => assumption); intro t' tk')))
/- contracts with two ends, with three -/
local macro_rules | `(tactic| ktr_call $x:term ($c:term, 1)) => `(tactic| (refine' $x (pre := $c) ?k1 ?k2 ?k3 ?k4 ?k5 ?kK ?kd ?ku ?kO ?kS ?_; (case k4 => k_asm); (case kS => tb_start); (case k1 => k_asm); (case k2 => k_asm); (case k3 => k_asm); (case k5 => k_asm); (case kK => first | exact rfl | assumption); (case kd => ktr_room); (case ku => ktr_units); (case kO => ktr_rel); all_goals ktr_unf))
local macro_rules | `(tactic| ktr_call $x:term ($c:term, 2)) => `(tactic| (refine' $x (pre := $c) ?k1 ?k2 ?k3 ?k4 ?k5 ?kK ?kd ?ku ?kO ?kS ?_ ?_; (case k4 => k_asm); (case kS => tb_start); (case k1 => k_asm); (case k2 => k_asm); (case k3 => k_asm); (case k5 => k_asm); (case kK => first | exact rfl | assumption); (case kd => ktr_room); (case ku => ktr_units); (case kO => ktr_rel); all_goals ktr_unf))
local macro_rules | `(tactic| ktr_call $x:term ($c:term, 3)) => `(tactic| (refine' $x (pre := $c) ?k1 ?k2 ?k3 ?k4 ?k5 ?kK ?kd ?ku ?kO ?kS ?_ ?_ ?_; (case k4 => k_asm); (case kS => tb_start); (case k1 => k_asm); (case k2 => k_asm); (case k3 => k_asm); (case k5 => k_asm); (case kK => first | exact rfl | assumption); (case kd => ktr_room); (case ku => ktr_units); (case kO => ktr_rel); all_goals ktr_unf))
/- the bound method that the state is -/
local macro_rules | `(tactic| walk_at "call ref") => `(tactic| (k_here; (with_reducible show wpAny _ _ (call (Value.ref _) [] []) _ _ _); k_dflt (refine' lx_meth ?N9 ?q9 ?_; (case N9 => k_asm); (case q9 => k_mem); (first
  | ktr_call lexStart_u_c ([], 1) | ktr_call lexRandom_u_c ([], 3) | ktr_call lexDigits_u_c ([], 2) | ktr_call lexAlpha_u_c ([], 2)))))
/- more apartness facts -/
local macro_rules | `(tactic| ktr_unf) => `(tactic| (intros; (repeat ((with_reducible rename AllNe _ _ => O9); simp only [List.cons_append, List.nil_append, AllNe, and_true] at O9)); (with_reducible rename News _ _ _ _ => N9); (try simp only [List.cons_append, List.nil_append] at N9); (try dsimp only); (try k_fold); (try k_sweep)))
local macro_rules | `(tactic| walk_at "getMethod ref") => `(tactic| (k_here; (with_reducible show wpAny _ _ (getMethod (Value.ref _) (Str.ofString "state") _) _ _ _); k_dflt (refine' kmu_own ?k1 ?k2 ?k3 ?k4 ?k5 ?_; (case k1 => k_asm); (case k2 => k_asm); (case k3 => k_inst); (case k4 => k_is); (case k5 => k_is); k_whole)))
/- next_token, by the state -/
local macro_rules | `(tactic| ktr_rel) => `(tactic| ((try simp only [List.cons_append, List.nil_append, List.append_nil]); assumption))
local macro_rules | `(tactic| walk_at "call ref") => `(tactic| (k_here; refine lx_app ?_; (with_reducible show wpAny _ _ (call (Value.ref 601) [Value.ref _] []) _ _ _); k_dflt (first
  | ktr_call next_start ([], 1) | ktr_call next_rand ([], 3) | ktr_call next_digits ([], 2) | ktr_call next_alpha ([], 2))))
/-! ### parse -/
theorem Fr.push {h₀ h : Heap} {L : Addr} {m : Str → Option Value} (F : Fr h₀ L h m) (o : Obj) : Fr h₀ L (h.push o) m := by
  obtain ⟨oL, es, ep, hL, r⟩ := F.ns
  exact ⟨⟨oL, es, ep, Heap.get?_push_of_some _ hL, r⟩, fun b o e => Heap.get?_push_of_some _ (F.keep b o e), F.above⟩
theorem Fr.tok {h₀ h : Heap} {L : Addr} {m : Str → Option Value} (F : Fr h₀ L h m) : Fr h₀ L h (fun y => if y = Str.ofString "tok" then m (Str.ofString "tok") else m y) := by
  have e : (fun y => if y = Str.ofString "tok" then m (Str.ofString "tok") else m y) = m := by
    funext y
    by_cases hy : y = Str.ofString "tok"
    · simp [hy]
    · simp [hy]
  rw [e]
  exact F
theorem Toks.dgInv {la ld : Int} {c : Nat} {r : List Nat} {ks} (h : Toks la ld (c :: r) ks) (hd : dg c = true) :
    (ld ≤ (((c :: r).takeWhile dg).length : Int) ∧ ∃ ks', ks = ("NUMBER", (c :: r).takeWhile dg) :: ks' ∧ Toks la ld ((c :: r).dropWhile dg) ks') ∨ ((((c :: r).takeWhile dg).length : Int) < ld ∧ Toks la ld ((c :: r).dropWhile dg) ks) := by
  cases h with
  | oth a _ => simp [other, hd] at a
  | alY a _ _ => rw [al_dg a] at hd; cases hd
  | alN a _ _ => rw [al_dg a] at hd; cases hd
  | dgY _ a b => exact .inl ⟨a, _, rfl, b⟩
  | dgN _ a b => exact .inr ⟨a, b⟩
theorem Toks.alInv {la ld : Int} {c : Nat} {r : List Nat} {ks} (h : Toks la ld (c :: r) ks) (hd : al c = true) :
    (la ≤ (((c :: r).takeWhile al).length : Int) ∧ ∃ ks', ks = ("STRING", (c :: r).takeWhile al) :: ks' ∧ Toks la ld ((c :: r).dropWhile al) ks') ∨ ((((c :: r).takeWhile al).length : Int) < la ∧ Toks la ld ((c :: r).dropWhile al) ks) := by
  cases h with
  | oth a _ => simp [other, hd] at a
  | dgY a _ _ => rw [al_dg hd] at a; cases a
  | dgN a _ _ => rw [al_dg hd] at a; cases a
  | alY _ a b => exact .inl ⟨a, _, rfl, b⟩
  | alN _ a b => exact .inr ⟨a, b⟩
theorem LxOff.six {x dx f df q ms q' ms' : Nat} {o1 o2 o3 o4 o5 o6 p1 p2 p3 p4 p5 p6 : Obj} {rest : List (Addr × Obj)} (O : LxOff [(x, o1), (dx, o2), (f, o3), (df, o4), (q, o5), (ms, o6)] rest) (hq : AllNe q' rest) (hm : AllNe ms' rest) :
    LxOff [(x, p1), (dx, p2), (f, p3), (df, p4), (q', p5), (ms', p6)] rest := by
  refine .cons (fun r hr => O _ (.head _) r hr) (.cons (fun r hr => O _ (.tail _ (.head _)) r hr) (.cons (fun r hr => O _ (.tail _ (.tail _ (.head _))) r hr) (.cons (fun r hr => O _ (.tail _ (.tail _ (.tail _ (.head _)))) r hr) (.cons (fun r hr => hq.at r hr) (.cons (fun r hr => hm.at r hr) .nil)))))
theorem LxOff.five {x dx f df q ms q' : Nat} {o1 o2 o3 o4 o5 o6 p1 p2 p3 p4 p5 : Obj} {rest : List (Addr × Obj)} (O : LxOff [(x, o1), (dx, o2), (f, o3), (df, o4), (q, o5), (ms, o6)] rest) (hq : AllNe q' rest) :
    LxOff [(x, p1), (dx, p2), (f, p3), (df, p4), (q', p5)] rest := by
  refine .cons (fun r hr => O _ (.head _) r hr) (.cons (fun r hr => O _ (.tail _ (.head _)) r hr) (.cons (fun r hr => O _ (.tail _ (.tail _ (.head _))) r hr) (.cons (fun r hr => O _ (.tail _ (.tail _ (.tail _ (.head _)))) r hr) (.cons (fun r hr => hq.at r hr) .nil))))
theorem LxOff.consR {led rest : List (Addr × Obj)} {a : Addr × Obj} (O : LxOff led rest) (h : AllNe a.1 led) : LxOff led (a :: rest) := fun p hp r hr => by
  rcases List.mem_cons.mp hr with rfl | hr
  · exact (h.at p hp).symm
  · exact O p hp r hr
section
variable {w : World} {g : Heap} {C x dx f df : Nat} {z : SioT} {l : List Nat} {la ld : Int} {m₁ : Str → Option Value} {S G : Nat} {gob : Obj} {ks : List (String × List Nat)}
variable {es : List TkE} {c' : Nat} {k : String} {lt : List Nat} {ks2 : List (String × List Nat)} {h : Heap} {tk : Nat} {s₀ : Shared} {t2 q q' ms ms0 cq' : Nat} {qs' : List Value} {pos' : Nat} {tp' k1 k2 : Tok} {rem2 : List Nat} {u : Option Value} {y : LexT} {kap : Resume → Shared → Prop} {o1 o2 o3 o4 o5 o6 : Obj} {rest : List (Addr × Obj)}
theorem lx_next (F : Fr g C h (fun n => if n = Str.ofString "tok" then u else m₁ n))
    (N : News g C h ((x, instObj 690 dx) :: (dx, lexObj w y f q' (.ref ms) rem2.isEmpty) :: (f, instObj 569 df) :: (df, sioObj w z l pos' tp') :: (q', listOf qs'.toArray cq') :: (ms, methodObj (.ref 673) (.ref x)) :: rest))
    (O : LxOff [(x, o1), (dx, o2), (f, o3), (df, o4), (q, o5), (ms0, o6)] rest) (hq : AllNe q' rest) (hm : AllNe ms rest)
    (od : dx < x ∧ x < df ∧ df < f ∧ f < q' ∧ q' < ms) (sd : MoreOk y.more ∧ (tx l).length ≤ 1000 ∧ pos' ≤ 1000 ∧ QRem qs' l pos' rem2 ∧ MoreIs w y.more la ld ∧ (∀ c ∈ rem2, c < 128) ∧ rem2.length ≤ 1000) (tks : Toks la ld rem2 ks2) :
    ∃ mu, mu ≤ 2 * rem2.length + 1 ∧ PInv w g C x dx f df z l la ld m₁ mu ks2 h rest := by
  obtain ⟨h1, h2, h3, h4, h5⟩ := od
  obtain ⟨i1, i2, i3, i4, i5, i6, i7⟩ := sd
  cases rem2 with
  | nil =>
    have tk3 := tks.none
    subst tk3
    refine ⟨0, Nat.zero_le _, .stop (pos := pos') (tp := tp') (qs := qs') (cq := cq') F (fun p hp => N p ?_) (O.five hq) i1 (.inr ⟨ms, rfl⟩)⟩
    rcases List.mem_append.mp hp with hp | hp
    · simp only [List.mem_cons, List.not_mem_nil, or_false] at hp ⊢
      rcases hp with rfl | rfl | rfl | rfl | rfl
      · exact .inl rfl
      · exact .inr (.inl rfl)
      · exact .inr (.inr (.inl rfl))
      · exact .inr (.inr (.inr (.inl rfl)))
      · exact .inr (.inr (.inr (.inr (.inl rfl))))
    · exact .tail _ (.tail _ (.tail _ (.tail _ (.tail _ (.tail _ hp)))))
  | cons c r => exact ⟨_, Nat.le_refl _, .run F N (O.six hq hm) ⟨h1, h2, h3, h4, i1, i2, i3, i4, i5, i6, i7, h5⟩ (.rand tks)⟩
theorem lx_told (he : es.map TkE.tk ++ (k, lt) :: ks2 = ks) (hSG : S ≠ G) (hS : AllNe S (es.map TkE.ob)) (F : Fr g C h (fun n => if n = Str.ofString "tok" then u else m₁ n))
    (N : News g C h ((t2, tupOf [.str (Str.ofString k) k1, .str (tx lt) k2]) :: (x, instObj 690 dx) :: (dx, lexObj w y f q' (.ref ms) rem2.isEmpty) :: (f, instObj 569 df) :: (df, sioObj w z l pos' tp') :: (q', listOf qs'.toArray cq') :: (ms, methodObj (.ref 673) (.ref x)) :: restOf S G gob es c'))
    (O : LxOff [(x, o1), (dx, o2), (f, o3), (df, o4), (q, o5), (ms0, o6)] (restOf S G gob es c')) (hq : AllNe q' (restOf S G gob es c')) (hm : AllNe ms (restOf S G gob es c')) (ht : AllNe t2 (restOf S G gob es c'))
    (od : dx < x ∧ x < df ∧ df < f ∧ f < q' ∧ q' < t2 ∧ t2 < ms) (sd : MoreOk y.more ∧ (tx l).length ≤ 1000 ∧ pos' ≤ 1000 ∧ QRem qs' l pos' rem2 ∧ MoreIs w y.more la ld ∧ (∀ c ∈ rem2, c < 128) ∧ rem2.length ≤ 1000) (tks : Toks la ld rem2 ks2)
    (hk : ∀ s'' c2, LxP w g C x dx f df z l la ld m₁ S G gob ks2 s''.heap (es ++ [⟨t2, k, lt, k1, k2⟩]) c2 → kap (.send .none) s'') :
    LxY w g C x dx f df z l la ld m₁ S G gob ks ks2.length s₀ (.ref t2) { s₀ with heap := h, toks := tk } kap := by
  obtain ⟨h1, h2, h3, h4, h5, h6⟩ := od
  have N' : News g C h ((x, instObj 690 dx) :: (dx, lexObj w y f q' (.ref ms) rem2.isEmpty) :: (f, instObj 569 df) :: (df, sioObj w z l pos' tp') :: (q', listOf qs'.toArray cq') :: (ms, methodObj (.ref 673) (.ref x)) :: (TkE.ob ⟨t2, k, lt, k1, k2⟩ :: restOf S G gob es c')) := fun p hp => N p (by
    rcases List.mem_cons.mp hp with h | hp
    · exact h ▸ .tail _ (.head _)
    rcases List.mem_cons.mp hp with h | hp
    · exact h ▸ .tail _ (.tail _ (.head _))
    rcases List.mem_cons.mp hp with h | hp
    · exact h ▸ .tail _ (.tail _ (.tail _ (.head _)))
    rcases List.mem_cons.mp hp with h | hp
    · exact h ▸ .tail _ (.tail _ (.tail _ (.tail _ (.head _))))
    rcases List.mem_cons.mp hp with h | hp
    · exact h ▸ .tail _ (.tail _ (.tail _ (.tail _ (.tail _ (.head _)))))
    rcases List.mem_cons.mp hp with h | hp
    · exact h ▸ .tail _ (.tail _ (.tail _ (.tail _ (.tail _ (.tail _ (.head _))))))
    rcases List.mem_cons.mp hp with h | hp
    · exact h ▸ .head _
    · exact .tail _ (.tail _ (.tail _ (.tail _ (.tail _ (.tail _ (.tail _ hp)))))))
  have O' : LxOff [(x, instObj 690 dx), (dx, instObj 690 dx), (f, instObj 690 dx), (df, instObj 690 dx), (q', instObj 690 dx), (ms, instObj 690 dx)] (TkE.ob ⟨t2, k, lt, k1, k2⟩ :: restOf S G gob es c') := by
    refine LxOff.consR (O.six hq hm) ?_
    simp only [AllNe, and_true, TkE.ob]
    refine ⟨?_, ?_, ?_, ?_, ?_, ?_⟩ <;> (show (_ : Nat) ≠ _) <;> omega
  have hq2 : AllNe q' (TkE.ob ⟨t2, k, lt, k1, k2⟩ :: restOf S G gob es c') := ⟨by show (_ : Nat) ≠ t2; omega, hq⟩
  have hm2 : AllNe ms (TkE.ob ⟨t2, k, lt, k1, k2⟩ :: restOf S G gob es c') := ⟨by show (_ : Nat) ≠ t2; omega, hm⟩
  obtain ⟨mu, _, P⟩ := lx_next F N' O' hq2 hm2 ⟨h1, h2, h3, h4, by omega⟩ sd tks
  exact ⟨es, c', ⟨t2, k, lt, k1, k2⟩, ks2, h, tk, he, rfl, rfl, rfl, hSG, hS, ht, ⟨mu, P⟩, hk⟩
end
theorem lxParse_g {prog : Program} {w : World} {p : Program} {loose : List Str} {mean : ExcName → Option Value} {mg mb : Str → Option Value}
    {dp un : Nat} {gd : Option (List Code)} {cn : Str} {cs : Scope} {a : Addr} {ccd : Value} {cl : List (Str × Addr)} {outer : List Env} {A₀ : Around} {base h₀ : Heap} {L : Addr} {m : Str → Option Value} {s : Shared} {Q E : Value → Shared → Prop}
    {x dx f df q cq : Nat} {y : LexT} {ms0 : Nat} {z : SioT} {tp : Tok} {l rem : List Nat} {qs : List Value} {pos : Nat} {la ld : Int} {pre post ext : List (Addr × Obj)} {ks : List (String × List Nat)}
    (B : Below A₀ base outer h₀) (F : Fr h₀ L s.heap m) (X : (hd.heap_39 w.params).In h₀)
    (N : News h₀ L s.heap (pre ++ (([(x, instObj 690 dx), (dx, lexObj w y f q (.ref ms0) false), (f, instObj 569 df), (df, sioObj w z l (pos) tp), (q, listOf qs.toArray cq), (ms0, methodObj (.ref 666) (.ref x))] ++ ext) ++ post)))
    (Tp : Top p loose mean mg mb h₀) (hcs : cs.kind = .function) (hdp : dp + 16 < recursionLimit) (hun : un + 200 < cLine)
    (hoff : LxOff ([(x, instObj 690 dx), (dx, lexObj w y f q (.ref ms0) false), (f, instObj 569 df), (df, sioObj w z l (pos) tp), (q, listOf qs.toArray cq), (ms0, methodObj (.ref 666) (.ref x))] ++ ext) (pre ++ post)) (hext : LxOff [(x, instObj 690 dx), (dx, lexObj w y f q (.ref ms0) false), (f, instObj 569 df), (df, sioObj w z l (pos) tp), (q, listOf qs.toArray cq), (ms0, methodObj (.ref 666) (.ref x))] ext)
    (hside : dx < x ∧ x < df ∧ df < f ∧ f < q ∧ MoreOk y.more ∧ (tx l).length ≤ 1000 ∧ pos ≤ 1000 ∧ QRem qs l pos rem ∧ MoreIs w y.more la ld ∧ (∀ c ∈ rem, c < 128) ∧ rem.length ≤ 1000 ∧ q < ms0 ∧ Toks la ld rem ks)
    (hret : ∀ (G : Nat) h' tk' gens', Fr h₀ L h' m → News h₀ L h' (pre ++ post) → LxGenAt prog w dp un gd cn cs a ccd cl outer h₀ L m x ext (pre ++ post) ks s.gens gens' G h' → Q (.ref G) { s with heap := h', toks := tk', gens := gens' }) :
    codeAny (model prog w) (ktrTop dp un gd cn cs L a ccd cl outer) (.call (.ref 608) ⟨[.ref x], []⟩) (LxR Q E) s := by
  obtain ⟨h1, h2, h3, h4, hm, hT, hpos, hq, hmi, hasc, hrl, hms, htk⟩ := hside
  k_dflt (refine' code_gen_lx (binds := [(Str.ofString "self", Value.ref x)]) ?k1 ?k2 ?k3 ?k4 ?kO ?k5 ?kA ?kF ?kK ?k6 ?k7 ?k8 ?k9 ?kB ?_ ?c2 ?c3 ?c4 ?c5; (case kA => exact rfl); (case kF => exact rfl); (case kK => first | exact rfl | assumption); (case k1 => k_asm); (case k2 => k_asm); (case k3 => k_asm); (case k4 => k_asm); (case kO => assumption); (case k5 => k_asm); (case k6 => k_is); (case k7 => k_is); (case k8 => k_room); (case k9 => first | exact BindsTo.of_eq rfl | exact binds_K (by k_in) rfl (by k_is) rfl rfl rfl | fail "k_enter: no rule for these arguments"); (case c5 => decide); (case kB => exact locs rfl); (case c2 => exact rfl); (case c3 => exact rfl); (case c4 => exact rfl); k_whole)
  intro g C h₁ tk FG NG FC NC BG XG TG lC bk of hsz
  (try dsimp only)
  (try k_fold)
  obtain ⟨h2p, hh2⟩ : ∃ h2p, h2p = h₁.push (genObj s.gens.size (.str (Str.ofString "parse") tk) (.str (Str.ofString "Lexer.parse") (tk + 1))) := ⟨_, rfl⟩
  rw [← hh2]
  have kp : ∀ b o, h₁.get? b = some o → h2p.get? b = some o := fun b o e => by rw [hh2]; exact Heap.get?_push_of_some _ e
  have hGn : g.get? h₁.objs.size = none := by
    cases r : g.get? h₁.objs.size with
    | none => rfl
    | some o => exact absurd (Heap.lt_size (FC.keep _ _ r)) (Nat.lt_irrefl _)
  have hGC : h₁.objs.size ≠ C := by
    obtain ⟨oL, es, ep, hL, r⟩ := FC.ns
    exact Nat.ne_of_gt (Heap.lt_size hL)
  have F2 := Fr.tok (Fr.push FC (genObj s.gens.size (.str (Str.ofString "parse") tk) (.str (Str.ofString "Lexer.parse") (tk + 1))))
  rw [← hh2] at F2
  have kg : ∀ b o, g.get? b = some o → h2p.get? b = some o := fun b o e => kp _ _ (FC.keep b o e)
  have NN : News g C h2p ([(x, instObj 690 dx), (dx, lexObj w y f q (.ref ms0) false), (f, instObj 569 df), (df, sioObj w z l (pos) tp), (q, listOf qs.toArray cq), (ms0, methodObj (.ref 666) (.ref x))] ++ ((h₁.objs.size, genObj s.gens.size (.str (Str.ofString "parse") tk) (.str (Str.ofString "Lexer.parse") (tk + 1))) :: ext)) := by
    intro r hr
    rcases List.mem_append.mp hr with hr | hr
    · exact ⟨kp _ _ (NC r (List.mem_append_left _ hr)).1, (NC r (List.mem_append_left _ hr)).2⟩
    rcases List.mem_cons.mp hr with rfl | hr
    · exact ⟨by rw [hh2]; exact Heap.get?_push_size _ rfl, hGC, hGn⟩
    · exact ⟨kp _ _ (NC r (List.mem_append_right _ hr)).1, (NC r (List.mem_append_right _ hr)).2⟩
  have OO : LxOff [(x, instObj 690 dx), (dx, lexObj w y f q (.ref ms0) false), (f, instObj 569 df), (df, sioObj w z l (pos) tp), (q, listOf qs.toArray cq), (ms0, methodObj (.ref 666) (.ref x))] ((h₁.objs.size, genObj s.gens.size (.str (Str.ofString "parse") tk) (.str (Str.ofString "Lexer.parse") (tk + 1))) :: ext) := by
    intro r hr r' hr'
    rcases List.mem_cons.mp hr' with rfl | hr'
    · exact Nat.ne_of_lt (Heap.lt_size (NC r (List.mem_append_left _ hr)).1)
    · exact hext r hr r' hr'
  refine hret h₁.objs.size h2p (tk + 1 + 1) _ (bk _ kg).1 (bk _ kg).2 ⟨g, base, C, dx, f, df, z, l, la, ld, _, _, _, _, rfl, ⟨_, .run F2 NN OO ⟨h1, h2, h3, h4, hm, hT, hpos, hq, hmi, hasc, hrl, hms⟩ (.start htk)⟩, ?_, fun h' k => TG.nolimit.keeps k, bk, of, FG.keep, BG⟩
  · clear hret bk of N NC NN F FG FC F2 NG hoff hext OO B X Tp BG hcs hdp hun
    clear m base dp un gd cn cs L a ccd cl outer A₀
    intro dp un gd cn cs L a ccd cl outer base BG hcs hdp hun S G gob s' c P
    obtain ⟨hSG, hS, mu, PI⟩ := P
    refine ⟨rfl, seg_func (seg_execs_cons (seg_While fun p => ?_))⟩
    refine seg_ind (fun mu ks' s₀ s => ∃ es c h tk, List.map TkE.tk es ++ ks' = ks ∧ s = { s₀ with heap := h, toks := tk } ∧ S ≠ G ∧ AllNe S (es.map TkE.ob) ∧ PInv w g C x dx f df z l la ld _ mu ks' h (restOf S G gob es c)) ?_ mu ks s' s' ⟨[], c, s'.heap, s'.toks, rfl, rfl, hSG, trivial, PI⟩
    intro mu ks' s₀ s1 h5 ih
    obtain ⟨es, c', h, tk', he, rfl, hSG', hS', PI'⟩ := h5
    clear PI hS hSG
    obtain ⟨rest, hrest⟩ : ∃ r, r = restOf S G gob es c' := ⟨_, rfl⟩
    rw [← hrest] at PI'
    cases PI' with
    | stop Fc Nc Oc hmo hst =>
      rename_i yy qq cqq stt uu tpp qss poss
      refine seg_while_lx ?_
      rcases hst with rfl | ⟨msx, rfl⟩
      · k_steps
        refine LxIf.no (seg_execs_nil (seg_leaf (.ok .next) (seg_end (.ok (.ret .none)) ⟨rfl, es, c', _, _, by simpa using he, rfl, hSG', hS', 0, hrest ▸ PInv.stop (by assumption) (by k_asm) Oc hmo (.inl rfl)⟩)))
      · k_steps
        refine LxIf.no (seg_execs_nil (seg_leaf (.ok .next) (seg_end (.ok (.ret .none)) ⟨rfl, es, c', _, _, by simpa using he, rfl, hSG', hS', 0, hrest ▸ PInv.stop (by assumption) (by k_asm) Oc hmo (.inr ⟨msx, rfl⟩)⟩)))
    | run Fc Nc Oc sd pr =>
      rename_i yy qq cqq ms Fx uu tpp remm qss poss
      obtain ⟨i1, i2, i3, i4, i5, i6, i7, i8, i9, i10, i11, i12⟩ := sd
      have hOq : AllNe qq rest := Oc.last (by k_mem)
      cases pr with
      | start tks =>
        refine seg_while_lx ?_
        k_steps
        refine LxIf.yes (seg_step_lx ?_)
        k_steps
        refine LxSeg.mk (seg_if_lx ?_)
        k_steps
        refine LxIf.no (seg_execs_nil (seg_again rfl (ih _ _ _ _ (.inr ⟨rfl, ?zlt⟩) ⟨es, c', _, _, he, rfl, hSG', hS', hrest ▸ PInv.run (Fr.again (by assumption)) (by k_asm) (Oc.six hOq (by assumption)) ⟨i1, i2, i3, i4, i5, i6, i7, i8, i9, i10, i11, (by assumption)⟩ (.rand tks)⟩)))
        omega
      | rand tks =>
        have tk2 := tks.skip
        refine seg_while_lx ?_
        k_steps
        refine LxIf.yes (seg_step_lx ?_)
        k_steps
        · rename List.dropWhile other _ = (_ :: _) => hE
          refine LxSeg.mk (seg_if_lx ?_)
          k_steps
          have hlen := drop_le (pr := other) remm
          rw [hE] at hlen tk2
          refine LxIf.no (seg_execs_nil (seg_again rfl (ih _ _ _ _ (.inr ⟨rfl, ?_⟩) ⟨es, c', _, _, he, rfl, hSG', hS', hrest ▸ PInv.run (Fr.again (by assumption)) (by k_asm) (Oc.six hOq (by assumption)) ⟨i1, i2, i3, i4, i5, i6, (by assumption), (by assumption), i9, fun c hc => i10 c ((List.dropWhile_sublist _).subset (by rw [hE]; exact hc)), Nat.le_trans hlen i11, (by assumption)⟩ (.alpha (by assumption) tk2)⟩)))
          omega
        · rename List.dropWhile other _ = (_ :: _) => hE
          refine LxSeg.mk (seg_if_lx ?_)
          k_steps
          have hlen := drop_le (pr := other) remm
          rw [hE] at hlen tk2
          refine LxIf.no (seg_execs_nil (seg_again rfl (ih _ _ _ _ (.inr ⟨rfl, ?_⟩) ⟨es, c', _, _, he, rfl, hSG', hS', hrest ▸ PInv.run (Fr.again (by assumption)) (by k_asm) (Oc.six hOq (by assumption)) ⟨i1, i2, i3, i4, i5, i6, (by assumption), (by assumption), i9, fun c hc => i10 c ((List.dropWhile_sublist _).subset (by rw [hE]; exact hc)), Nat.le_trans hlen i11, (by assumption)⟩ (.digits (by assumption) tk2)⟩)))
          omega
        · have hE : remm.dropWhile other = [] := by assumption
          rw [hE] at tk2
          have tk3 := tk2.none
          subst tk3
          refine LxSeg.mk (seg_if_lx ?_)
          k_steps
          refine LxIf.no (seg_execs_nil (seg_again rfl (ih _ _ _ _ (.inr ⟨rfl, ?_⟩) ⟨es, c', _, _, he, rfl, hSG', hS', hrest ▸ PInv.stop (Fr.again (by assumption)) (by k_asm) (Oc.five hOq) i5 (.inl rfl)⟩)))
          omega
      | digits hpr tks =>
        rename_i cc rr
        refine seg_while_lx ?_
        k_steps
        refine LxIf.yes (seg_step_lx ?_)
        k_steps
        · rcases tks.dgInv hpr with ⟨_, ks2, rfl, tk2⟩ | ⟨hlt, _⟩
          · refine LxSeg.mk (seg_if_lx ?_)
            k_steps
            refine LxIf.yes (seg_yield_lx rfl ?_)
            k_steps
            refine LxSeg.mk fun kap hk => ?_
            subst hrest
            refine lx_told he hSG' hS' (Fr.again (by assumption)) (by assumption) Oc (by assumption) (by assumption) (by assumption) ⟨i1, i2, i3, (by assumption), (by assumption), (by assumption)⟩ ⟨i5, i6, (by assumption), (by assumption), i9, fun c hc => i10 c ((List.dropWhile_sublist _).subset hc), Nat.le_trans (drop_le _) i11⟩ tk2 fun s2 c2 P2 => ?_
            obtain ⟨P3, P4, mu2, P5⟩ := P2
            exact hk .none s2 (seg_again rfl (ih mu2 ks2 s2 s2 (.inl (Nat.lt_succ_self _)) ⟨_, c2, s2.heap, s2.toks, (by rw [← he, List.map_append, List.append_assoc]; rfl), rfl, P3, P4, P5⟩))
          · exfalso; omega
        · rcases tks.dgInv hpr with ⟨hlt, ks2, _, _⟩ | ⟨_, tk2⟩
          · exfalso; omega
          · refine LxSeg.mk (seg_if_lx ?_)
            k_steps
            have hlen := drop_lt (l := rr) hpr
            obtain ⟨mu2, hmu, P2⟩ := lx_next (w := w) (Fr.again (by assumption)) (by assumption) Oc (by assumption) (by assumption) ⟨i1, i2, i3, (by assumption), (by assumption)⟩ ⟨i5, i6, (by assumption), (by assumption), i9, fun c hc => i10 c ((List.dropWhile_sublist _).subset hc), Nat.le_trans (drop_le _) i11⟩ tk2
            refine LxIf.no (seg_execs_nil (seg_again rfl (ih mu2 _ _ _ (.inr ⟨rfl, ?_⟩) ⟨es, c', _, _, he, rfl, hSG', hS', hrest ▸ P2⟩)))
            rw [List.length_cons]
            omega
      | alpha hpr tks =>
        rename_i cc rr
        refine seg_while_lx ?_
        k_steps
        refine LxIf.yes (seg_step_lx ?_)
        k_steps
        · rcases tks.alInv hpr with ⟨_, ks2, rfl, tk2⟩ | ⟨hlt, _⟩
          · refine LxSeg.mk (seg_if_lx ?_)
            k_steps
            refine LxIf.yes (seg_yield_lx rfl ?_)
            k_steps
            refine LxSeg.mk fun kap hk => ?_
            subst hrest
            refine lx_told he hSG' hS' (Fr.again (by assumption)) (by assumption) Oc (by assumption) (by assumption) (by assumption) ⟨i1, i2, i3, (by assumption), (by assumption), (by assumption)⟩ ⟨i5, i6, (by assumption), (by assumption), i9, fun c hc => i10 c ((List.dropWhile_sublist _).subset hc), Nat.le_trans (drop_le _) i11⟩ tk2 fun s2 c2 P2 => ?_
            obtain ⟨P3, P4, mu2, P5⟩ := P2
            exact hk .none s2 (seg_again rfl (ih mu2 ks2 s2 s2 (.inl (Nat.lt_succ_self _)) ⟨_, c2, s2.heap, s2.toks, (by rw [← he, List.map_append, List.append_assoc]; rfl), rfl, P3, P4, P5⟩))
          · exfalso; omega
        · rcases tks.alInv hpr with ⟨hlt, ks2, _, _⟩ | ⟨_, tk2⟩
          · exfalso; omega
          · refine LxSeg.mk (seg_if_lx ?_)
            k_steps
            have hlen := drop_lt (l := rr) hpr
            obtain ⟨mu2, hmu, P2⟩ := lx_next (w := w) (Fr.again (by assumption)) (by assumption) Oc (by assumption) (by assumption) ⟨i1, i2, i3, (by assumption), (by assumption)⟩ ⟨i5, i6, (by assumption), (by assumption), i9, fun c hc => i10 c ((List.dropWhile_sublist _).subset hc), Nat.le_trans (drop_le _) i11⟩ tk2
            refine LxIf.no (seg_execs_nil (seg_again rfl (ih mu2 _ _ _ (.inr ⟨rfl, ?_⟩) ⟨es, c', _, _, he, rfl, hSG', hS', hrest ▸ P2⟩)))
            rw [List.length_cons]
            omega
end
section
theorem reset20 : True := by
  w_top off
  trivial
/-! ### the lines (local) -/
local macro_rules | `(tactic| k_in) => `(tactic| first | with_reducible assumption | exact Frag.In.keeps (by with_reducible assumption) (Fr.keep (by with_reducible assumption)) | exact Frag.In.keeps (by with_reducible assumption) (Fr.keep (by k_asm)))
local macro_rules | `(tactic| k_room) => `(tactic| ktr_room)
/- entry into a def whose ledger is a part of the caller's -/
local macro_rules | `(tactic| ktr_enter) => `(tactic| (refine' code_lx ?k1 ?k2 ?k3 ?k4 ?kO ?k5 ?kA ?kF ?kK ?k6 ?k7 ?k8 ?k9 ?kB ?_ ?c2 ?c3 ?c4 ?c5; (case kA => exact rfl); (case kF => exact rfl); (case kK => first | exact rfl | assumption); (case k1 => k_asm); (case k2 => k_asm); (case k3 => k_asm); (case k4 => k_asm); (case kO => assumption); (case k5 => k_asm); (case k6 => k_is); (case k7 => k_is); (case k8 => k_room); (case k9 => first | exact BindsTo.of_eq rfl | exact binds_K (by k_in) rfl (by k_is) rfl rfl rfl | fail "k_enter: no rule for these arguments"); (case c5 => decide); (case kB => exact locs rfl); (case c2 => exact rfl); (case c3 => exact rfl); (case c4 => exact rfl); k_whole; intro g' L' h' FG' F' N' B' X' T' l1; (try k_lt l1); (try dsimp only); (try k_lift B'); (try k_fold)))
/- apartness -/
local macro_rules | `(tactic| ktr_rel) => `(tactic| first | assumption | ((try simp only [List.cons_append, List.nil_append, List.append_nil]); repeat (first | exact LxOff.nil | refine LxOff.cons (by k_all) ?_)))
/- a dict of six written entries and a tail -/
local macro_rules | `(tactic| k_get) => `(tactic| first
  | (refine' get6_hit ?hm ?h; (case hm => assumption); (case h => k_get))
  | (refine' get6_miss ?hm ?n1 ?n2 ?h; (case hm => assumption); (case n1 => decide +kernel); (case n2 => decide +kernel); (case h => k_get))
  | (refine' get6_is ?hm ?h ?h2; (case hm => assumption); (case h => k_get); (case h2 => (intro h9; exact absurd (h9.symm.trans (by k_get)) (by nofun)))))
local macro_rules | `(tactic| k_put) => `(tactic| (refine' put6 ?hm ?h; (case hm => assumption); (case h => k_put)))
local macro_rules | `(tactic| walk_at "setAttr ref") => `(tactic| (k_here; k_dflt ((refine' set_dict ?k1 ?k2 ?k3 ?k4 ?k5 ?k6 ?k7 ?k8 ?k9 ?k10 ?k11 ?k12 ?k13 ?_; (case k1 => k_asm); (case k2 => k_asm); (case k3 => k_asm); (case k4 => k_inst); (case k5 => exact rfl); (case k6 => k_is); (case k7 => k_is); (case k8 => k_is); (case k9 => k_is); (case k10 => k_get); (case k11 => k_put); (case k12 => k_upd); (case k13 => first | exact Nat.le_of_ble_eq_true rfl | (have h9 := MoreOk.len (by assumption); simp only [List.length_cons]; omega)); k_whole; intro h' F' N'; (try k_sweep)))))
local macro_rules | `(tactic| walk_at "call builtin:list.extend") => `(tactic| (k_here; (with_reducible show wpAny _ _ (call (Value.builtin _) [Value.ref _, Value.str _ _]) _ _ _); k_dflt (first
  | (refine' lx_extend0 ?hh ?F ?N ?D ?_; (case hh => exact rfl); (case F => k_asm); (case N => k_asm); (case D => k_mem); intro h' tk' F' N'; (try k_sweep))
  | (refine' lx_extend1 ?hh ?F ?N ?U ?_; (case hh => exact rfl); (case F => k_asm); (case N => k_asm); (case U => k_updF); intro h' tk' u' c' F' N'; (try dsimp only at N'); (try k_sweep)))))
local macro_rules | `(tactic| walk_at "call type:list") => `(tactic| (k_here; (with_reducible show wpAny _ _ (call (Value.type _) [Value.str _ _]) _ _ _); k_dflt (first
  | (refine' lx_list0 ?hh ?F ?N ?_; (case hh => exact rfl); (case F => k_asm); (case N => k_asm); intro p' h' tk' c' F' N' l1; (try k_lt l1); (try k_sweep))
  | (refine' lx_list1 ?hh ?F ?N ?_; (case hh => exact rfl); (case F => k_asm); (case N => k_asm); intro p' h' tk' u' c' F' N' l1; (try k_lt l1); (try k_sweep)))))
local macro_rules | `(tactic| tb_rel) => `(tactic| (refine' cb_drop ?cN ?cS; (case cN => assumption); (case cS => (repeat (first | exact List.forall_mem_nil _ | refine List.forall_mem_cons.mpr ⟨by k_mem, ?_⟩)))))
/- the call of a def by its contract: ktr_call CONTRACT PRE -/
local macro_rules | `(tactic| ktr_unf) => `(tactic| (intros; (with_reducible rename News _ _ _ _ => N9); (try simp only [List.cons_append, List.nil_append] at N9); (try dsimp only); (try k_fold); (try k_sweep)))
local macro_rules | `(tactic| tb_start) => `(tactic| ((repeat' apply And.intro) <;> first | assumption | omega | rfl))
local macro_rules | `(tactic| ktr_call $x:term $c:term) => `(tactic| (refine' $x (pre := $c) ?k1 ?k2 ?k3 ?k4 ?k5 ?kK ?kd ?ku ?kO ?kS ?_; (case k4 => k_asm); (case kS => tb_start); (case k1 => k_asm); (case k2 => k_asm); (case k3 => k_asm); (case k5 => k_asm); (case kK => first | exact rfl | assumption); (case kd => ktr_room); (case ku => ktr_units); (case kO => ktr_rel); ktr_unf))
local macro_rules | `(tactic| walk_at "exec While") => `(tactic| (k_here; k_dflt (refine whl_start 100 ?_)))
local macro_rules | `(tactic| walk_at "exec While BoolOp") => `(tactic| (k_here; k_dflt (refine whl_start 100 ?_)))
local macro_rules | `(tactic| walk_at "call ref") => `(tactic| (k_here; (with_reducible show wpAny _ _ (call (Value.ref 515) [Value.ref _, Value.int _ _] []) _ _ _); k_dflt (first
  | ktr_call sioRead_e [] | ktr_call sioRead_e [_] | ktr_call sioRead_e [_, _] | ktr_call sioRead_e [_, _, _] | ktr_call sioRead_e [_, _, _, _]
  | ktr_call sioRead_c [] | ktr_call sioRead_c [_] | ktr_call sioRead_c [_, _] | ktr_call sioRead_c [_, _, _] | ktr_call sioRead_c [_, _, _, _]
  | ktr_call sioRead_0 [] | ktr_call sioRead_0 [_] | ktr_call sioRead_0 [_, _] | ktr_call sioRead_0 [_, _, _] | ktr_call sioRead_0 [_, _, _, _]
  | ktr_call sioRead [] | ktr_call sioRead [_] | ktr_call sioRead [_, _] | ktr_call sioRead [_, _, _] | ktr_call sioRead [_, _, _, _])))
/-! ### parse, __iter__ -/
theorem lxParse {prog : Program} {w : World} {p : Program} {loose : List Str} {mean : ExcName → Option Value} {mg mb : Str → Option Value}
    {dp un : Nat} {gd : Option (List Code)} {cn : Str} {cs : Scope} {a : Addr} {ccd : Value} {cl : List (Str × Addr)} {outer : List Env} {A₀ : Around} {base h₀ : Heap} {L : Addr} {m : Str → Option Value} {s : Shared} {Q E : Value → Shared → Prop}
    {x dx f df q cq : Nat} {y : LexT} {ms0 : Nat} {z : SioT} {tp : Tok} {l rem : List Nat} {qs : List Value} {pos : Nat} {la ld : Int} {pre post : List (Addr × Obj)} {ks : List (String × List Nat)}
    (B : Below A₀ base outer h₀) (F : Fr h₀ L s.heap m) (X : (hd.heap_39 w.params).In h₀)
    (N : News h₀ L s.heap (pre ++ ([(x, instObj 690 dx), (dx, lexObj w y f q (.ref ms0) false), (f, instObj 569 df), (df, sioObj w z l (pos) tp), (q, listOf qs.toArray cq), (ms0, methodObj (.ref 666) (.ref x))] ++ post)))
    (Tp : Top p loose mean mg mb h₀) (hcs : cs.kind = .function) (hdp : dp + 16 < recursionLimit) (hun : un + 200 < cLine)
    (hoff : LxOff [(x, instObj 690 dx), (dx, lexObj w y f q (.ref ms0) false), (f, instObj 569 df), (df, sioObj w z l (pos) tp), (q, listOf qs.toArray cq), (ms0, methodObj (.ref 666) (.ref x))] (pre ++ post)) (hside : dx < x ∧ x < df ∧ df < f ∧ f < q ∧ MoreOk y.more ∧ (tx l).length ≤ 1000 ∧ pos ≤ 1000 ∧ QRem qs l pos rem ∧ MoreIs w y.more la ld ∧ (∀ c ∈ rem, c < 128) ∧ rem.length ≤ 1000 ∧ q < ms0 ∧ Toks la ld rem ks)
    (hret : ∀ (G : Nat) h' tk' gens', Fr h₀ L h' m → News h₀ L h' (pre ++ post) → LxGenAt prog w dp un gd cn cs a ccd cl outer h₀ L m x [] (pre ++ post) ks s.gens gens' G h' → Q (.ref G) { s with heap := h', toks := tk', gens := gens' }) :
    wpAny (model prog w) (ktrTop dp un gd cn cs L a ccd cl outer) (call (.ref 608) [.ref x]) Q E s := by
  exact lx_call (lxParse_g (ext := []) B F X N Tp hcs hdp hun hoff (fun _ _ _ h => nomatch h) hside hret)
theorem lxParse_S {prog : Program} {w : World} {p : Program} {loose : List Str} {mean : ExcName → Option Value} {mg mb : Str → Option Value}
    {dp un : Nat} {gd : Option (List Code)} {cn : Str} {cs : Scope} {a : Addr} {ccd : Value} {cl : List (Str × Addr)} {outer : List Env} {A₀ : Around} {base h₀ : Heap} {L : Addr} {m : Str → Option Value} {s : Shared} {Q E : Value → Shared → Prop}
    {x dx f df q cq : Nat} {y : LexT} {ms0 : Nat} {z : SioT} {tp : Tok} {l rem : List Nat} {qs : List Value} {pos : Nat} {la ld : Int} {pre post : List (Addr × Obj)} {ks : List (String × List Nat)} {S : Nat}
    (B : Below A₀ base outer h₀) (F : Fr h₀ L s.heap m) (X : (hd.heap_39 w.params).In h₀)
    (N : News h₀ L s.heap (pre ++ ([(x, instObj 690 dx), (dx, lexObj w y f q (.ref ms0) false), (f, instObj 569 df), (df, sioObj w z l (pos) tp), (q, listOf qs.toArray cq), (ms0, methodObj (.ref 666) (.ref x)), (S, listOf #[] 0)] ++ post)))
    (Tp : Top p loose mean mg mb h₀) (hcs : cs.kind = .function) (hdp : dp + 16 < recursionLimit) (hun : un + 200 < cLine)
    (hoff : LxOff [(x, instObj 690 dx), (dx, lexObj w y f q (.ref ms0) false), (f, instObj 569 df), (df, sioObj w z l (pos) tp), (q, listOf qs.toArray cq), (ms0, methodObj (.ref 666) (.ref x)), (S, listOf #[] 0)] (pre ++ post)) (hside : dx < x ∧ x < df ∧ df < f ∧ f < q ∧ MoreOk y.more ∧ (tx l).length ≤ 1000 ∧ pos ≤ 1000 ∧ QRem qs l pos rem ∧ MoreIs w y.more la ld ∧ (∀ c ∈ rem, c < 128) ∧ rem.length ≤ 1000 ∧ q < ms0 ∧ Toks la ld rem ks ∧ ms0 < S)
    (hret : ∀ (G : Nat) h' tk' gens', Fr h₀ L h' m → News h₀ L h' (pre ++ post) → LxGenAt prog w dp un gd cn cs a ccd cl outer h₀ L m x [(S, listOf #[] 0)] (pre ++ post) ks s.gens gens' G h' → Q (.ref G) { s with heap := h', toks := tk', gens := gens' }) :
    wpAny (model prog w) (ktrTop dp un gd cn cs L a ccd cl outer) (call (.ref 608) [.ref x]) Q E s := by
  obtain ⟨h1, h2, h3, h4, hm, hT, hpos, hq, hmi, hasc, hrl, hms, htk, hS⟩ := hside
  refine lx_call (lxParse_g (ext := [(S, listOf #[] 0)]) B F X N Tp hcs hdp hun hoff ?_ ⟨h1, h2, h3, h4, hm, hT, hpos, hq, hmi, hasc, hrl, hms, htk⟩ hret)
  refine .cons (fun r hr => ?_) (.cons (fun r hr => ?_) (.cons (fun r hr => ?_) (.cons (fun r hr => ?_) (.cons (fun r hr => ?_) (.cons (fun r hr => ?_) .nil)))))
  all_goals
    rw [List.mem_singleton.mp hr]
    show (_ : Nat) ≠ S
    omega
end
section
theorem reset21 : True := by
  w_top off
  trivial
/-! ### the lines (local) -/
local macro_rules | `(tactic| k_in) => `(tactic| first | with_reducible assumption | exact Frag.In.keeps (by with_reducible assumption) (Fr.keep (by with_reducible assumption)) | exact Frag.In.keeps (by with_reducible assumption) (Fr.keep (by k_asm)))
local macro_rules | `(tactic| k_room) => `(tactic| ktr_room)
/- entry into a def whose ledger is a part of the caller's -/
local macro_rules | `(tactic| ktr_enter) => `(tactic| (refine' code_lx ?k1 ?k2 ?k3 ?k4 ?kO ?k5 ?kA ?kF ?kK ?k6 ?k7 ?k8 ?k9 ?kB ?_ ?c2 ?c3 ?c4 ?c5; (case kA => exact rfl); (case kF => exact rfl); (case kK => first | exact rfl | assumption); (case k1 => k_asm); (case k2 => k_asm); (case k3 => k_asm); (case k4 => k_asm); (case kO => assumption); (case k5 => k_asm); (case k6 => k_is); (case k7 => k_is); (case k8 => k_room); (case k9 => first | exact BindsTo.of_eq rfl | exact binds_K (by k_in) rfl (by k_is) rfl rfl rfl | fail "k_enter: no rule for these arguments"); (case c5 => decide); (case kB => exact locs rfl); (case c2 => exact rfl); (case c3 => exact rfl); (case c4 => exact rfl); k_whole; intro g' L' h' FG' F' N' B' X' T' l1; (try k_lt l1); (try dsimp only); (try k_lift B'); (try k_fold)))
/- apartness -/
local macro_rules | `(tactic| ktr_rel) => `(tactic| first | assumption | ((try simp only [List.cons_append, List.nil_append, List.append_nil]); repeat (first | exact LxOff.nil | refine LxOff.cons (by k_all) ?_)))
/- a dict of six written entries and a tail -/
local macro_rules | `(tactic| k_get) => `(tactic| first
  | (refine' get6_hit ?hm ?h; (case hm => assumption); (case h => k_get))
  | (refine' get6_miss ?hm ?n1 ?n2 ?h; (case hm => assumption); (case n1 => decide +kernel); (case n2 => decide +kernel); (case h => k_get))
  | (refine' get6_is ?hm ?h ?h2; (case hm => assumption); (case h => k_get); (case h2 => (intro h9; exact absurd (h9.symm.trans (by k_get)) (by nofun)))))
local macro_rules | `(tactic| k_put) => `(tactic| (refine' put6 ?hm ?h; (case hm => assumption); (case h => k_put)))
local macro_rules | `(tactic| walk_at "setAttr ref") => `(tactic| (k_here; k_dflt ((refine' set_dict ?k1 ?k2 ?k3 ?k4 ?k5 ?k6 ?k7 ?k8 ?k9 ?k10 ?k11 ?k12 ?k13 ?_; (case k1 => k_asm); (case k2 => k_asm); (case k3 => k_asm); (case k4 => k_inst); (case k5 => exact rfl); (case k6 => k_is); (case k7 => k_is); (case k8 => k_is); (case k9 => k_is); (case k10 => k_get); (case k11 => k_put); (case k12 => k_upd); (case k13 => first | exact Nat.le_of_ble_eq_true rfl | (have h9 := MoreOk.len (by assumption); simp only [List.length_cons]; omega)); k_whole; intro h' F' N'; (try k_sweep)))))
local macro_rules | `(tactic| walk_at "call builtin:list.extend") => `(tactic| (k_here; (with_reducible show wpAny _ _ (call (Value.builtin _) [Value.ref _, Value.str _ _]) _ _ _); k_dflt (first
  | (refine' lx_extend0 ?hh ?F ?N ?D ?_; (case hh => exact rfl); (case F => k_asm); (case N => k_asm); (case D => k_mem); intro h' tk' F' N'; (try k_sweep))
  | (refine' lx_extend1 ?hh ?F ?N ?U ?_; (case hh => exact rfl); (case F => k_asm); (case N => k_asm); (case U => k_updF); intro h' tk' u' c' F' N'; (try dsimp only at N'); (try k_sweep)))))
local macro_rules | `(tactic| walk_at "call type:list") => `(tactic| (k_here; (with_reducible show wpAny _ _ (call (Value.type _) [Value.str _ _]) _ _ _); k_dflt (first
  | (refine' lx_list0 ?hh ?F ?N ?_; (case hh => exact rfl); (case F => k_asm); (case N => k_asm); intro p' h' tk' c' F' N' l1; (try k_lt l1); (try k_sweep))
  | (refine' lx_list1 ?hh ?F ?N ?_; (case hh => exact rfl); (case F => k_asm); (case N => k_asm); intro p' h' tk' u' c' F' N' l1; (try k_lt l1); (try k_sweep)))))
local macro_rules | `(tactic| tb_rel) => `(tactic| (refine' cb_drop ?cN ?cS; (case cN => assumption); (case cS => (repeat (first | exact List.forall_mem_nil _ | refine List.forall_mem_cons.mpr ⟨by k_mem, ?_⟩)))))
/- the call of a def by its contract: ktr_call CONTRACT PRE -/
local macro_rules | `(tactic| ktr_unf) => `(tactic| (intros; (with_reducible rename News _ _ _ _ => N9); (try simp only [List.cons_append, List.nil_append] at N9); (try dsimp only); (try k_fold); (try k_sweep)))
local macro_rules | `(tactic| tb_start) => `(tactic| ((repeat' apply And.intro) <;> first | assumption | omega | rfl))
local macro_rules | `(tactic| ktr_call $x:term $c:term) => `(tactic| (refine' $x (pre := $c) ?k1 ?k2 ?k3 ?k4 ?k5 ?kK ?kd ?ku ?kO ?kS ?_; (case k4 => k_asm); (case kS => tb_start); (case k1 => k_asm); (case k2 => k_asm); (case k3 => k_asm); (case k5 => k_asm); (case kK => first | exact rfl | assumption); (case kd => ktr_room); (case ku => ktr_units); (case kO => ktr_rel); ktr_unf))
local macro_rules | `(tactic| walk_at "exec While") => `(tactic| (k_here; k_dflt (refine whl_start 100 ?_)))
local macro_rules | `(tactic| walk_at "exec While BoolOp") => `(tactic| (k_here; k_dflt (refine whl_start 100 ?_)))
local macro_rules | `(tactic| walk_at "call ref") => `(tactic| (k_here; (with_reducible show wpAny _ _ (call (Value.ref 515) [Value.ref _, Value.int _ _] []) _ _ _); k_dflt (first
  | ktr_call sioRead_e [] | ktr_call sioRead_e [_] | ktr_call sioRead_e [_, _] | ktr_call sioRead_e [_, _, _] | ktr_call sioRead_e [_, _, _, _]
  | ktr_call sioRead_c [] | ktr_call sioRead_c [_] | ktr_call sioRead_c [_, _] | ktr_call sioRead_c [_, _, _] | ktr_call sioRead_c [_, _, _, _]
  | ktr_call sioRead_0 [] | ktr_call sioRead_0 [_] | ktr_call sioRead_0 [_, _] | ktr_call sioRead_0 [_, _, _] | ktr_call sioRead_0 [_, _, _, _]
  | ktr_call sioRead [] | ktr_call sioRead [_] | ktr_call sioRead [_, _] | ktr_call sioRead [_, _, _] | ktr_call sioRead [_, _, _, _])))
/- a while is held; the contracts of read, peek, pushback -/
local macro_rules | `(tactic| walk_at "exec While") => `(tactic| (k_here; refine lx_hold ?_))
local macro_rules | `(tactic| walk_at "exec While BoolOp") => `(tactic| (k_here; refine lx_hold ?_))
local macro_rules | `(tactic| ktr_unf) => `(tactic| (intros; (try ((with_reducible rename AllNe _ _ => O9); simp only [List.cons_append, List.nil_append, AllNe, and_true] at O9)); (with_reducible rename News _ _ _ _ => N9); (try simp only [List.cons_append, List.nil_append] at N9); (try dsimp only); (try k_fold); (try k_sweep)))
local macro_rules | `(tactic| walk_at "call ref") => `(tactic| (k_here; (with_reducible show wpAny _ _ (call (Value.ref 616) [Value.ref _, Value.int _ _] []) _ _ _); k_dflt (first
  | ktr_call lexRead_u [] | ktr_call lexRead_u [_] | ktr_call lexRead_u [_, _] | ktr_call lexRead_u [_, _, _] | ktr_call lexRead_u [_, _, _, _])))
local macro_rules | `(tactic| walk_at "call ref") => `(tactic| (k_here; (with_reducible show wpAny _ _ (call (Value.ref 624) [Value.ref _, Value.int _ _] []) _ _ _); k_dflt (first
  | ktr_call lexPeek_u [] | ktr_call lexPeek_u [_] | ktr_call lexPeek_u [_, _] | ktr_call lexPeek_u [_, _, _] | ktr_call lexPeek_u [_, _, _, _])))
local macro_rules | `(tactic| walk_at "call ref") => `(tactic| (k_here; (with_reducible show wpAny _ _ (call (Value.ref 631) [Value.ref _, Value.str _ _] []) _ _ _); k_dflt (first
  | ktr_call lexPush_u [] | ktr_call lexPush_u [_] | ktr_call lexPush_u [_, _] | ktr_call lexPush_u [_, _, _] | ktr_call lexPush_u [_, _, _, _])))
local macro_rules | `(tactic| walk_at "call builtin:str.join") => `(tactic| (k_here; (with_reducible show wpAny _ _ (call (Value.builtin _) [Value.str _ _, Value.ref _]) _ _ _); k_dflt (refine' lx_join ?N ?D ?l ?_; (case N => k_asm); (case D => k_mem); (case l => first | assumption | omega)); intro t' k' hl'))
local macro_rules | `(tactic| walk_at "getAttr ref") => `(tactic| (k_here; (with_reducible show wpAny _ _ (getAttr (Value.ref _) (PySem.Str.ofString "minalpha") _) _ _ _); k_dflt (refine' lx_minalpha ?F ?X ?N ?x ?d ?m ?_; (case F => k_asm); (case X => k_in); (case N => k_asm); (case x => k_mem); (case d => k_mem); (case m => assumption); intro t')))
local macro_rules | `(tactic| walk_at "getAttr ref") => `(tactic| (k_here; (with_reducible show wpAny _ _ (getAttr (Value.ref _) (PySem.Str.ofString "mindigits") _) _ _ _); k_dflt (refine' lx_mindigits ?F ?X ?N ?x ?d ?m ?_; (case F => k_asm); (case X => k_in); (case N => k_asm); (case x => k_mem); (case d => k_mem); (case m => assumption); intro t')))
local macro_rules | `(tactic| walk_at "WhlIf") => `(tactic| (first | (refine WhlIf.yes (by assumption) ?_) | (refine WhlIf.no (by assumption) ?_)))
local macro_rules | `(tactic| walk_at "call builtin:list.append") => `(tactic| (k_here; (with_reducible show wpAny _ _ (call (Value.builtin _) [Value.ref _, Value.str _ _]) _ _ _); k_dflt (refine' lx_append ?F ?N ?l ?U ?_; (case F => k_asm); (case N => k_asm); (case U => k_upd); (case l => assumption); intro h' F' N'; (try k_sweep))))
local macro_rules | `(tactic| walk_at "call builtin:len") => `(tactic| (k_here; (with_reducible show wpAny _ _ (call (Value.builtin "len") [Value.ref _]) _ _ _); k_dflt (refine' lx_len ?N ?D ?l ?_; (case N => k_asm); (case D => k_mem); (case l => assumption); intro t' tk')))
/- contracts with two ends, with three -/
local macro_rules | `(tactic| ktr_call $x:term ($c:term, 1)) => `(tactic| (refine' $x (pre := $c) ?k1 ?k2 ?k3 ?k4 ?k5 ?kK ?kd ?ku ?kO ?kS ?_; (case k4 => k_asm); (case kS => tb_start); (case k1 => k_asm); (case k2 => k_asm); (case k3 => k_asm); (case k5 => k_asm); (case kK => first | exact rfl | assumption); (case kd => ktr_room); (case ku => ktr_units); (case kO => ktr_rel); all_goals ktr_unf))
local macro_rules | `(tactic| ktr_call $x:term ($c:term, 2)) => `(tactic| (refine' $x (pre := $c) ?k1 ?k2 ?k3 ?k4 ?k5 ?kK ?kd ?ku ?kO ?kS ?_ ?_; (case k4 => k_asm); (case kS => tb_start); (case k1 => k_asm); (case k2 => k_asm); (case k3 => k_asm); (case k5 => k_asm); (case kK => first | exact rfl | assumption); (case kd => ktr_room); (case ku => ktr_units); (case kO => ktr_rel); all_goals ktr_unf))
local macro_rules | `(tactic| ktr_call $x:term ($c:term, 3)) => `(tactic| (refine' $x (pre := $c) ?k1 ?k2 ?k3 ?k4 ?k5 ?kK ?kd ?ku ?kO ?kS ?_ ?_ ?_; (case k4 => k_asm); (case kS => tb_start); (case k1 => k_asm); (case k2 => k_asm); (case k3 => k_asm); (case k5 => k_asm); (case kK => first | exact rfl | assumption); (case kd => ktr_room); (case ku => ktr_units); (case kO => ktr_rel); all_goals ktr_unf))
/- the bound method that the state is -/
local macro_rules | `(tactic| walk_at "call ref") => `(tactic| (k_here; (with_reducible show wpAny _ _ (call (Value.ref _) [] []) _ _ _); k_dflt (refine' lx_meth ?N9 ?q9 ?_; (case N9 => k_asm); (case q9 => k_mem); (first
  | ktr_call lexStart_u_c ([], 1) | ktr_call lexRandom_u_c ([], 3) | ktr_call lexDigits_u_c ([], 2) | ktr_call lexAlpha_u_c ([], 2)))))
/- more apartness facts -/
local macro_rules | `(tactic| ktr_unf) => `(tactic| (intros; (repeat ((with_reducible rename AllNe _ _ => O9); simp only [List.cons_append, List.nil_append, AllNe, and_true] at O9)); (with_reducible rename News _ _ _ _ => N9); (try simp only [List.cons_append, List.nil_append] at N9); (try dsimp only); (try k_fold); (try k_sweep)))
local macro_rules | `(tactic| walk_at "getMethod ref") => `(tactic| (k_here; (with_reducible show wpAny _ _ (getMethod (Value.ref _) (Str.ofString "state") _) _ _ _); k_dflt (refine' kmu_own ?k1 ?k2 ?k3 ?k4 ?k5 ?_; (case k1 => k_asm); (case k2 => k_asm); (case k3 => k_inst); (case k4 => k_is); (case k5 => k_is); k_whole)))
/- next_token, by the state -/
local macro_rules | `(tactic| ktr_rel) => `(tactic| ((try simp only [List.cons_append, List.nil_append, List.append_nil]); assumption))
local macro_rules | `(tactic| walk_at "call ref") => `(tactic| (k_here; refine lx_app ?_; (with_reducible show wpAny _ _ (call (Value.ref 601) [Value.ref _] []) _ _ _); k_dflt (first
  | ktr_call next_start ([], 1) | ktr_call next_rand ([], 3) | ktr_call next_digits ([], 2) | ktr_call next_alpha ([], 2))))
local macro_rules | `(tactic| walk_at "call ref") => `(tactic| (k_here; refine lx_app ?_; (with_reducible show wpAny _ _ (call (Value.ref 608) [Value.ref _] []) _ _ _); k_dflt (first | ktr_call lxParse_S ([], 1))))
/-! ### __iter__ -/
theorem lxIter_c {prog : Program} {w : World} {p : Program} {loose : List Str} {mean : ExcName → Option Value} {mg mb : Str → Option Value}
    {dp un : Nat} {gd : Option (List Code)} {cn : Str} {cs : Scope} {a : Addr} {ccd : Value} {cl : List (Str × Addr)} {outer : List Env} {A₀ : Around} {base h₀ : Heap} {L : Addr} {m : Str → Option Value} {s : Shared} {Q E : Value → Shared → Prop}
    {x dx f df q cq : Nat} {y : LexT} {ms0 : Nat} {z : SioT} {tp : Tok} {l rem : List Nat} {qs : List Value} {pos : Nat} {la ld : Int} {pre post : List (Addr × Obj)} {ks : List (String × List Nat)} {S : Nat}
    (B : Below A₀ base outer h₀) (F : Fr h₀ L s.heap m) (X : (hd.heap_39 w.params).In h₀)
    (N : News h₀ L s.heap (pre ++ ([(x, instObj 690 dx), (dx, lexObj w y f q (.ref ms0) false), (f, instObj 569 df), (df, sioObj w z l (pos) tp), (q, listOf qs.toArray cq), (ms0, methodObj (.ref 666) (.ref x)), (S, listOf #[] 0)] ++ post)))
    (Tp : Top p loose mean mg mb h₀) (hcs : cs.kind = .function) (hdp : dp + 18 < recursionLimit) (hun : un + 204 < cLine)
    (hoff : LxOff [(x, instObj 690 dx), (dx, lexObj w y f q (.ref ms0) false), (f, instObj 569 df), (df, sioObj w z l (pos) tp), (q, listOf qs.toArray cq), (ms0, methodObj (.ref 666) (.ref x)), (S, listOf #[] 0)] (pre ++ post)) (hside : dx < x ∧ x < df ∧ df < f ∧ f < q ∧ MoreOk y.more ∧ (tx l).length ≤ 1000 ∧ pos ≤ 1000 ∧ QRem qs l pos rem ∧ MoreIs w y.more la ld ∧ (∀ c ∈ rem, c < 128) ∧ rem.length ≤ 1000 ∧ q < ms0 ∧ Toks la ld rem ks ∧ ms0 < S)
    (hret : ∀ (G : Nat) h' tk' gens', Fr h₀ L h' m → News h₀ L h' (pre ++ post) → LxGenAt prog w dp un gd cn cs a ccd cl outer h₀ L m x [(S, listOf #[] 0)] (pre ++ post) ks s.gens gens' G h' → Q (.ref G) { s with heap := h', toks := tk', gens := gens' }) :
    codeAny (model prog w) (ktrTop dp un gd cn cs L a ccd cl outer) (.call (.ref 594) ⟨[.ref x], []⟩) (LxR Q E) s := by
  obtain ⟨h1, h2, h3, h4, hm, hT, hpos, hq, hmi, hasc, hrl, hms, htk, hS⟩ := hside
  k_dflt (refine' code_lx_bk ?k1 ?k2 ?k3 ?k4 ?kO ?k5 ?kA ?kF ?kK ?k6 ?k7 ?k8 ?k9 ?kB ?_ ?c2 ?c3 ?c4 ?c5; (case kA => exact rfl); (case kF => exact rfl); (case kK => first | exact rfl | assumption); (case k1 => k_asm); (case k2 => k_asm); (case k3 => k_asm); (case k4 => k_asm); (case kO => assumption); (case k5 => k_asm); (case k6 => k_is); (case k7 => k_is); (case k8 => k_room); (case k9 => first | exact BindsTo.of_eq rfl | exact binds_K (by k_in) rfl (by k_is) rfl rfl rfl | fail "k_enter: no rule for these arguments"); (case c5 => decide); (case kB => exact locs rfl); (case c2 => exact rfl); (case c3 => exact rfl); (case c4 => exact rfl); k_whole; intro g' L' h' FG' F' N' B' X' T' l1 bk9 of9 kp9; (try k_lt l1); (try dsimp only); (try k_fold))
  clear N F B X Tp
  k_steps
  rename Fr g' _ _ _ => F9
  rename LxGenAt _ _ _ _ _ _ _ _ _ _ _ _ _ _ _ _ _ _ _ _ _ _ => P9
  refine leaveK_ F9 (by assumption) fun _ _ _ => ?_
  have b9 := bk9 _ F9.keep
  exact hret _ _ _ _ b9.1 b9.2 (P9.up bk9 of9 kp9 B')
section
variable {w : World} {g : Heap} {C x dx f df : Nat} {z : SioT} {l : List Nat} {la ld : Int} {m₁ : Str → Option Value} {mu : Nat} {ks : List (String × List Nat)} {h h' : Heap} {rest rest' : List (Addr × Obj)}
theorem PInv.self (P : PInv w g C x dx f df z l la ld m₁ mu ks h rest) : h.get? x = some (instObj 690 dx) := by
  cases P with
  | run F N => exact (N _ (.head _)).1
  | stop F N => exact (N _ (.head _)).1
end
theorem News.upk {h₀ h h' : Heap} {L : Addr} {news : List (Addr × Obj)} (N : News h₀ L h news) (k : ∀ b o, h.get? b = some o → h'.get? b = some o) : News h₀ L h' news := fun p hp => ⟨k _ _ (N p hp).1, (N p hp).2⟩
theorem Fr.upk {h₀ h h' : Heap} {L : Addr} {m : Str → Option Value} (F : Fr h₀ L h m) (k : ∀ b o, h.get? b = some o → h'.get? b = some o) : Fr h₀ L h' m := by
  obtain ⟨oL, es, ep, hL, r⟩ := F.ns
  exact ⟨⟨oL, es, ep, k _ _ hL, r⟩, fun b o e => k _ _ (F.keep b o e), F.above⟩
/-- list(lexer) -/
theorem lx_list_obj {prog : Program} {w : World} {p : Program} {loose : List Str} {mean : ExcName → Option Value} {mg mb : Str → Option Value}
    {dp un : Nat} {gd : Option (List Code)} {cn : Str} {cs : Scope} {a : Addr} {ccd : Value} {cl : List (Str × Addr)} {outer : List Env} {A₀ : Around} {base h₀ : Heap} {L : Addr} {m : Str → Option Value} {s : Shared} {Q E : Value → Shared → Prop}
    {x dx f df q cq : Nat} {y : LexT} {ms0 : Nat} {z : SioT} {tp : Tok} {l rem : List Nat} {qs : List Value} {pos : Nat} {la ld : Int} {pre post : List (Addr × Obj)} {ks : List (String × List Nat)}
    (B : Below A₀ base outer h₀) (F : Fr h₀ L s.heap m) (X : (hd.heap_39 w.params).In h₀)
    (N : News h₀ L s.heap (pre ++ ([(x, instObj 690 dx), (dx, lexObj w y f q (.ref ms0) false), (f, instObj 569 df), (df, sioObj w z l (pos) tp), (q, listOf qs.toArray cq), (ms0, methodObj (.ref 666) (.ref x))] ++ post)))
    (Tp : Top p loose mean mg mb h₀) (hcs : cs.kind = .function) (hdp : dp + 18 < recursionLimit) (hun : un + 220 < cLine)
    (hoff : LxOff [(x, instObj 690 dx), (dx, lexObj w y f q (.ref ms0) false), (f, instObj 569 df), (df, sioObj w z l (pos) tp), (q, listOf qs.toArray cq), (ms0, methodObj (.ref 666) (.ref x))] (pre ++ post)) (hside : dx < x ∧ x < df ∧ df < f ∧ f < q ∧ MoreOk y.more ∧ (tx l).length ≤ 1000 ∧ pos ≤ 1000 ∧ QRem qs l pos rem ∧ MoreIs w y.more la ld ∧ (∀ c ∈ rem, c < 128) ∧ rem.length ≤ 1000 ∧ q < ms0 ∧ Toks la ld rem ks)
    (hret : ∀ (S : Nat) (es : List TkE) (c : Nat) (h' : Heap) (tk' : Nat), es.map TkE.tk = ks → Fr h₀ L h' m → News h₀ L h' ((S, listOf (es.map TkE.val).toArray c) :: (es.map TkE.ob ++ (pre ++ post))) → AllNe S (pre ++ post) → (∀ e ∈ es, AllNe e.t (pre ++ post)) → (∀ e ∈ es, S ≠ e.t) →
      Q (.ref S) { s with heap := h', toks := tk', gens := s.gens.push .finished }) :
    wpAny (model prog w) (ktrTop dp un gd cn cs L a ccd cl outer) (call (.type "list") [.ref x]) Q E s := by
  obtain ⟨h1, h2, h3, h4, hm, hT, hpos, hq, hmi, hasc, hrl, hms, htk⟩ := hside
  have hall : ks.length ≤ 1000 := Toks.len 1000 hrl htk
  obtain ⟨h, gens, dr, tk, os⟩ := s
  dsimp only at F N
  have six : ∀ p ∈ [(x, instObj 690 dx), (dx, lexObj w y f q (.ref ms0) false), (f, instObj 569 df), (df, sioObj w z l (pos) tp), (q, listOf qs.toArray cq), (ms0, methodObj (.ref 666) (.ref x))], p ∈ pre ++ ([(x, instObj 690 dx), (dx, lexObj w y f q (.ref ms0) false), (f, instObj 569 df), (df, sioObj w z l (pos) tp), (q, listOf qs.toArray cq), (ms0, methodObj (.ref 666) (.ref x))] ++ post) := fun p hp => List.mem_append_right _ (List.mem_append_left _ hp)
  refine callType_codes (Q₁ := fun obj s₁ => obj = .ref h.objs.size ∧ s₁ = { (⟨h, gens, dr, tk, os⟩ : Shared) with heap := h.push (listOf #[] 0) }) PySem.F.called_list (PySem.F.typeCall_list_1 _) PySem.F.entry_list_init
    (code_list_new _ ⟨rfl, rfl⟩) fun obj s₁ h₁ => ?_
  obtain ⟨rfl, rfl⟩ := h₁
  obtain ⟨S, hSd⟩ : ∃ S : Nat, S = h.objs.size := ⟨_, rfl⟩
  rw [← hSd]
  have hS : (h.push (listOf #[] 0)).get? S = some (listOf #[] 0) := by rw [hSd]; exact Heap.get?_push_size _ rfl
  refine ⟨⟨_, hS, rfl⟩, PySem.F.args_list_init_2 _ _, ?_⟩
  have kp : ∀ b o, h.get? b = some o → (h.push (listOf #[] 0)).get? b = some o := fun b o e => Heap.get?_push_of_some _ e
  have hxS : S ≠ x := by rw [hSd]; exact Nat.ne_of_gt (Heap.lt_size (N _ (six _ (.head _))).1)
  have hmS : ms0 < S := by rw [hSd]; exact Heap.lt_size (N _ (six (ms0, methodObj (.ref 666) (.ref x)) (.tail _ (.tail _ (.tail _ (.tail _ (.tail _ (.head _)))))))).1
  have hLS : S ≠ L := by
    obtain ⟨oL, es, ep, hL, r⟩ := F.ns
    rw [hSd]; exact Nat.ne_of_gt (Heap.lt_size hL)
  have h0S : h₀.get? S = none := by
    cases r : h₀.get? S with
    | none => rfl
    | some o => rw [hSd] at r; exact absurd (Heap.lt_size (F.keep _ _ r)) (Nat.lt_irrefl _)
  have kp2 : ∀ b o, (h.push (listOf #[] 0)).get? b = some o → ((h.push (listOf #[] 0)).update S (Obj.mapSeq (fun _ => (#[] : Array Value)))).get? b = some o := fun b o e => by
    by_cases hb : b = S
    · subst hb
      rw [hS] at e
      cases e
      exact Heap.get?_update_self (Obj.mapSeq (fun _ => (#[] : Array Value))) hS rfl
    · exact (Heap.get?_update_other _ _ (fun q => hb q.symm)).trans e
  show wpAny _ (ktrTop dp (un + 2) gd cn cs L a ccd cl outer) (do let old ← Builtin.List.listItems (.ref S); Builtin.List.listUpdate (.ref S) (fun _ => #[]); letGo old.toList.reverse; Builtin.List.listExtendWith (.ref S) (.ref x) .none) _ _ _
  refine wpAny_bind ?_
  unfold Builtin.List.listItems
  refine wpAny_bind (wpAny_seqItems hS rfl (wpAny_pure ?_))
  show wpAny _ _ (updateSeq S (fun _ => #[]) >>= fun _ => letGo (#[] : Array Value).toList.reverse >>= fun _ => Builtin.List.listExtendWith (.ref S) (.ref x) .none) _ _ _
  refine wpAny_bind (wpAny_updateSeq hS rfl ?_)
  refine wpAny_bind (wpAny_letGo ?_)
  obtain ⟨h2p, hh2⟩ : ∃ h2p, h2p = (h.push (listOf #[] 0)).update S (Obj.mapSeq (fun _ => (#[] : Array Value))) := ⟨_, rfl⟩
  rw [← hh2] at kp2 ⊢
  have kp3 : ∀ b o, h.get? b = some o → h2p.get? b = some o := fun b o e => kp2 _ _ (kp _ _ e)
  have F2 := Fr.upk F kp3
  have N2 : News h₀ L h2p (pre ++ ([(x, instObj 690 dx), (dx, lexObj w y f q (.ref ms0) false), (f, instObj 569 df), (df, sioObj w z l (pos) tp), (q, listOf qs.toArray cq), (ms0, methodObj (.ref 666) (.ref x)), (S, listOf #[] 0)] ++ post)) := fun p hp => by
    rcases List.mem_append.mp hp with hp | hp
    · exact News.upk N kp3 p (List.mem_append_left _ hp)
    · rcases List.mem_append.mp hp with hp | hp
      · rcases List.mem_append.mp (show p ∈ [(x, instObj 690 dx), (dx, lexObj w y f q (.ref ms0) false), (f, instObj 569 df), (df, sioObj w z l (pos) tp), (q, listOf qs.toArray cq), (ms0, methodObj (.ref 666) (.ref x))] ++ [(S, listOf #[] 0)] from hp) with hp | hp
        · exact News.upk N kp3 p (six p hp)
        · rw [List.mem_singleton.mp hp]
          exact ⟨kp2 _ _ hS, hLS, h0S⟩
      · exact News.upk N kp3 p (List.mem_append_right _ (List.mem_append_right _ hp))
  have O2 : LxOff [(x, instObj 690 dx), (dx, lexObj w y f q (.ref ms0) false), (f, instObj 569 df), (df, sioObj w z l (pos) tp), (q, listOf qs.toArray cq), (ms0, methodObj (.ref 666) (.ref x)), (S, listOf #[] 0)] (pre ++ post) := fun p hp r hr => by
    rcases List.mem_append.mp (show p ∈ [(x, instObj 690 dx), (dx, lexObj w y f q (.ref ms0) false), (f, instObj 569 df), (df, sioObj w z l (pos) tp), (q, listOf qs.toArray cq), (ms0, methodObj (.ref 666) (.ref x))] ++ [(S, listOf #[] 0)] from hp) with hp | hp
    · exact hoff p hp r hr
    · rw [List.mem_singleton.mp hp, hSd]
      refine Nat.ne_of_gt (Heap.lt_size (N r ?_).1)
      rcases List.mem_append.mp hr with hr | hr
      · exact List.mem_append_left _ hr
      · exact List.mem_append_right _ (List.mem_append_right _ hr)
  have tyx : ∀ {h' : Heap} {dx : Nat}, h'.get? x = some (instObj 690 dx) → Looks (model prog w) h' (typeOf (.ref x)) (.ref 690) := fun e => (Looks.ld e).andThen .now
  unfold Builtin.List.listExtendWith
  refine wpAny_bind ((tyx (N2 _ (List.mem_append_right _ (.head _))).1).here ?_)
  have g1 : Builtin.List.listSameRef (.ref S) (.ref x) = false := by simp [Builtin.List.listSameRef, hxS]
  have g2 : (Value.ref 690 == Value.type "list") = false := by decide
  have g3 : (Value.ref 690 == Value.type "tuple") = false := by decide
  simp only [g1, g2, g3, Bool.or_false, Bool.false_eq_true, if_false]
  have I2 : InstAt h2p x (instObj 690 dx) 690 (some (lexObj w y f q (.ref ms0) false)) := InstAt.of_news N2 (List.mem_append_right _ (.head _)) (List.mem_append_right _ (.tail _ (.head _)))
  refine wpAny_bind (owit_iter F2 X I2 (f := 594) (by k_is) (by k_is) ?_)
  refine lx_call (lxIter_c (S := S) B F2 X N2 Tp hcs hdp (by omega) O2 ⟨h1, h2, h3, h4, hm, hT, hpos, hq, hmi, hasc, hrl, hms, htk, hmS⟩ fun G h3p tk3 gens3 F3 N3 GA => ?_)
  obtain ⟨g, bb, C, dx', f', df', z', l', la', ld', m₁, gs, nm, qn, hg, ⟨mu, PI⟩, rd, T, bk, of, kp0, BB⟩ := GA
  dsimp only at hg
  subst hg
  have NG := PI.news _ (.head _)
  have NS := PI.news _ (.tail _ (.head _))
  unfold OwitIt
  refine wpAny_specialOf (T := "generator") ⟨_, NG.1, rfl⟩ slot_gen_next.lookup ?_
  refine wpAny_bind (wpAny_holding ?_)
  have X3 := X.keeps F3.keep
  have hx3 := PI.self
  have l1 : findIn (hd.heap_39 w.params) (.ref 690) "__len__" = some none := by k_is
  have l2 : findIn (hd.heap_39 w.params) (.ref 690) "__length_hint__" = some none := by k_is
  unfold Builtin.List.listLengthHint
  refine wpAny_bind (wpAny_bind ((tyx hx3).here ((looks_findIn X3 l1).here ?_)))
  show wpAny _ _ (specialOf (.ref x) (Str.ofString "__length_hint__") >>= _) _ _ _
  refine wpAny_bind (wpAny_bind ((tyx hx3).here ((looks_findIn X3 l2).here ?_)))
  refine wpAny_pure ?_
  have hSG : S ≠ G := fun e => by
    have n1 := NG.1
    have n2 := NS.1
    rw [← e] at n1
    rw [n1] at n2
    have h9 : Value.type "generator" = Value.type "list" := congrArg Obj.cls (Option.some.inj n2)
    injection h9 with h9
    exact absurd h9 (by decide)
  have PP : LxP w g C x dx' f' df' z' l' la' ld' m₁ S G (genObj gens.size nm qn) ks h3p [] 0 := ⟨hSG, trivial, mu, PI.moves (S := S) ⟨_, .tail _ (.head _)⟩ (fun b o _ e => e) (fun p hp => by
      rcases List.mem_cons.mp hp with rfl | hp
      · exact NS.1
      · rcases List.mem_cons.mp hp with rfl | hp
        · exact NG.1
        · cases hp) (fun p hp => by
      rcases List.mem_cons.mp hp with rfl | hp
      · exact ⟨_, .tail _ (.head _), rfl⟩
      · rcases List.mem_cons.mp hp with rfl | hp
        · exact ⟨_, .head _, rfl⟩
        · cases hp)⟩
  exact lx_list_rest (A := ktrTop dp (un + 1) gd cn cs L a ccd cl outer) (base := gens) (s0 := ⟨h, gens, dr, tk, os⟩) (R := wants (fun r s₂ => r = .none ∧ Q (.ref S) s₂) E) rfl T (show dp < recursionLimit by omega) hall (fun es c h' tk' he P' => ⟨rfl, by
      obtain ⟨F', N', r1, r2, r3⟩ := lx_list_told P' bk of
      exact hret _ es c h' tk' he F' N' r1 r2 r3⟩) PP
    fun s c' P' => rd dp (un + 3) gd cn cs L a ccd cl outer bb (below_units BB rfl fun _ _ e => e) hcs (by omega) (by omega) _ _ _ s c' P'
end
section
theorem reset22 : True := by
  w_top off
  trivial
/-! ### the lines (local) -/
local macro_rules | `(tactic| k_in) => `(tactic| first | with_reducible assumption | exact Frag.In.keeps (by with_reducible assumption) (Fr.keep (by with_reducible assumption)) | exact Frag.In.keeps (by with_reducible assumption) (Fr.keep (by k_asm)))
local macro_rules | `(tactic| k_room) => `(tactic| ktr_room)
/- entry into a def whose ledger is a part of the caller's -/
local macro_rules | `(tactic| ktr_enter) => `(tactic| (refine' code_lx ?k1 ?k2 ?k3 ?k4 ?kO ?k5 ?kA ?kF ?kK ?k6 ?k7 ?k8 ?k9 ?kB ?_ ?c2 ?c3 ?c4 ?c5; (case kA => exact rfl); (case kF => exact rfl); (case kK => first | exact rfl | assumption); (case k1 => k_asm); (case k2 => k_asm); (case k3 => k_asm); (case k4 => k_asm); (case kO => assumption); (case k5 => k_asm); (case k6 => k_is); (case k7 => k_is); (case k8 => k_room); (case k9 => first | exact BindsTo.of_eq rfl | exact binds_K (by k_in) rfl (by k_is) rfl rfl rfl | fail "k_enter: no rule for these arguments"); (case c5 => decide); (case kB => exact locs rfl); (case c2 => exact rfl); (case c3 => exact rfl); (case c4 => exact rfl); k_whole; intro g' L' h' FG' F' N' B' X' T' l1; (try k_lt l1); (try dsimp only); (try k_lift B'); (try k_fold)))
/- apartness -/
local macro_rules | `(tactic| ktr_rel) => `(tactic| first | assumption | ((try simp only [List.cons_append, List.nil_append, List.append_nil]); repeat (first | exact LxOff.nil | refine LxOff.cons (by k_all) ?_)))
/- a dict of six written entries and a tail -/
local macro_rules | `(tactic| k_get) => `(tactic| first
  | (refine' get6_hit ?hm ?h; (case hm => assumption); (case h => k_get))
  | (refine' get6_miss ?hm ?n1 ?n2 ?h; (case hm => assumption); (case n1 => decide +kernel); (case n2 => decide +kernel); (case h => k_get))
  | (refine' get6_is ?hm ?h ?h2; (case hm => assumption); (case h => k_get); (case h2 => (intro h9; exact absurd (h9.symm.trans (by k_get)) (by nofun)))))
local macro_rules | `(tactic| k_put) => `(tactic| (refine' put6 ?hm ?h; (case hm => assumption); (case h => k_put)))
local macro_rules | `(tactic| walk_at "setAttr ref") => `(tactic| (k_here; k_dflt ((refine' set_dict ?k1 ?k2 ?k3 ?k4 ?k5 ?k6 ?k7 ?k8 ?k9 ?k10 ?k11 ?k12 ?k13 ?_; (case k1 => k_asm); (case k2 => k_asm); (case k3 => k_asm); (case k4 => k_inst); (case k5 => exact rfl); (case k6 => k_is); (case k7 => k_is); (case k8 => k_is); (case k9 => k_is); (case k10 => k_get); (case k11 => k_put); (case k12 => k_upd); (case k13 => first | exact Nat.le_of_ble_eq_true rfl | (have h9 := MoreOk.len (by assumption); simp only [List.length_cons]; omega)); k_whole; intro h' F' N'; (try k_sweep)))))
local macro_rules | `(tactic| walk_at "call builtin:list.extend") => `(tactic| (k_here; (with_reducible show wpAny _ _ (call (Value.builtin _) [Value.ref _, Value.str _ _]) _ _ _); k_dflt (first
  | (refine' lx_extend0 ?hh ?F ?N ?D ?_; (case hh => exact rfl); (case F => k_asm); (case N => k_asm); (case D => k_mem); intro h' tk' F' N'; (try k_sweep))
  | (refine' lx_extend1 ?hh ?F ?N ?U ?_; (case hh => exact rfl); (case F => k_asm); (case N => k_asm); (case U => k_updF); intro h' tk' u' c' F' N'; (try dsimp only at N'); (try k_sweep)))))
local macro_rules | `(tactic| walk_at "call type:list") => `(tactic| (k_here; (with_reducible show wpAny _ _ (call (Value.type _) [Value.str _ _]) _ _ _); k_dflt (first
  | (refine' lx_list0 ?hh ?F ?N ?_; (case hh => exact rfl); (case F => k_asm); (case N => k_asm); intro p' h' tk' c' F' N' l1; (try k_lt l1); (try k_sweep))
  | (refine' lx_list1 ?hh ?F ?N ?_; (case hh => exact rfl); (case F => k_asm); (case N => k_asm); intro p' h' tk' u' c' F' N' l1; (try k_lt l1); (try k_sweep)))))
local macro_rules | `(tactic| tb_rel) => `(tactic| (refine' cb_drop ?cN ?cS; (case cN => assumption); (case cS => (repeat (first | exact List.forall_mem_nil _ | refine List.forall_mem_cons.mpr ⟨by k_mem, ?_⟩)))))
section
variable {prog : Program} {w : World} {h : Heap}
theorem lk_made (X : (hd.heap_39 w.params).In h) : Looks (model prog w) h (Bind.madeBy (.ref 569)) none := Looks.of_peek X (by first | rfl | k_is | kernel_rfl)
theorem lk_here (X : (hd.heap_39 w.params).In h) : Looks (model prog w) h (Bind.madeHere "object.__new__" (.ref 569)) () := Looks.of_peek X (by first | rfl | k_is | kernel_rfl)
theorem lk_call (X : (hd.heap_39 w.params).In h) : Looks (model prog w) h (specialOf (.ref 569) "__call__") (some (.builtin "type.__call__")) := looks_specialIn X (by k_is)
theorem lk_typ (X : (hd.heap_39 w.params).In h) : Looks (model prog w) h (isInstance (.ref 569) (.type "type")) true := looks_instIn X (by k_is)
theorem lk_mro (X : (hd.heap_39 w.params).In h) : ∃ l, Looks (model prog w) h (mroOf (.ref 569)) l ∧ l.isEmpty = false := ⟨_, Looks.of_peek X (by first | rfl | k_is | kernel_rfl), rfl⟩
end
def clsOk (K : Frag) (C : Addr) : Bool := match K.lookup C with
  | some ⟨_, _, .cls cd, _⟩ => !cd.abstract && !cd.hasDel
  | _ => false
theorem clsOk_of {K : Frag} {C : Addr} {h : Heap} (X : K.In h) (e : clsOk K C = true) : ∃ oc od cd sl, h.get? C = some ⟨oc, od, .cls cd, sl⟩ ∧ cd.abstract = false ∧ cd.hasDel = false := by
  unfold clsOk at e
  split at e
  · rename_i oc od cd sl ho
    simp only [Bool.and_eq_true, Bool.not_eq_true'] at e
    exact ⟨oc, od, cd, sl, X _ _ ho, e.1, e.2⟩
  · cases e
section
open Builtin Builtin.ObjectAttr
variable {prog : Program} {w : World} {A : Around} {R : Result → Shared → Prop} {h : Heap} {g : Array GenState} {d : Drawn} {t : Nat} {os : OsState}
theorem new_own (X : (hd.heap_39 w.params).In h) (hq : R (.ok (.ret (.ref (h.objs.size + 1)))) ⟨(h.push emptyDict).push (instObj 569 h.objs.size), g, d, t, os⟩) :
    codeAny (model prog w) A (.call (.builtin "object.__new__") ⟨[.ref 569], []⟩) R ⟨h, g, d, t, os⟩ := by
  obtain ⟨oc, od, cd, sl, hC, e1, e2⟩ := clsOk_of (C := 569) X (by first | rfl | kernel_rfl)
  have F := PySem.F.objNew
  have here := lk_here (prog := prog) X
  have typ := lk_typ (prog := prog) X
  have top : Looks (model prog w) h (isSubtype (.ref 569) (.type "object")) true := looks_subIn X (by k_is)
  have base : Looks (model prog w) h (Bind.staticBase (.ref 569)) (.type "object") := Looks.of_peek X (by first | rfl | k_is | kernel_rfl)
  have made0 : Looks (model prog w) h (Bind.madeBy (.type "object")) (some "object.__new__") := Looks.of_peek X (by first | rfl | k_is | kernel_rfl)
  have ist : Looks (model prog w) h (isType (.ref 569)) true := Looks.of_peek X (by first | rfl | k_is | kernel_rfl)
  refine codeAny_call_builtin_code (Code.quiet_builtin _ F.quiet) ?_
  simp only [checkBuiltinCall, F.kind, F.split, F.row]
  have args : Bind.checkArgs "object.__new__" ⟨.hand, "object.__new__", "__new__", .cls, []⟩ ⟨[.ref 569], []⟩ = pure () := by kernel_rfl
  rw [args]
  repeat (first | simp only [bne_self_eq_false, Bool.false_eq_true, if_false] | lk)
  refine codeAny_builtin F.entry ?_
  unfold Builtin.«object.__new__»
  have fin : ∀ A', wpAny (model prog w) A' (do
      let d ← if typeHasDict (.ref 569) then some <$> alloc { cls := .type "dict", data := .dict #[] } else pure none
      ret (← newObj (.ref 569) .plain d)) (fun fin s' => match fin with | .done f => R (.ok f) s' | .again c' => c'.quiet = true ∧ codeAny (model prog w) A c' R s') (fun e s' => R (.error e) s') ⟨h, g, d, t, os⟩ := by
    intro A'
    show wpAny _ _ ((alloc emptyDict >>= fun x => pure (some x)) >>= _) _ _ _
    refine wpAny_bind (wpAny_bind (wpAny_alloc (wpAny_pure (wpAny_bind ?_))))
    show wpAny _ _ (newObjAsIs _ _ _) _ _ _
    unfold newObjAsIs classHasDel
    refine wpAny_bind (wpAny_alloc (wpAny_bind (wpAny_bind (wpAny_load (Heap.get?_push_of_some _ (Heap.get?_push_of_some _ hC)) (wpAny_pure ?_)))))
    rw [e2]
    refine wpAny_pure (wpAny_pure ?_)
    show R _ _
    rw [Heap.size_push]
    exact hq
  repeat (first | simp only [e1, bne_self_eq_false, Bool.false_eq_true, if_false, Bool.not_true] | exact fin _ | lk)
def NewBack (prog : Program) (w : World) (A : Around) (rest : List Value) (R : Result → Shared → Prop) (obj : Value) (s : Shared) : Prop :=
  ∃ x dx : Nat, obj = .ref x ∧ s.heap.get? x = some (instObj 569 dx) ∧ (hd.heap_39 w.params).In s.heap ∧ codeAny (model prog w) A (.call (.ref 339) ⟨.ref x :: rest, []⟩) (InitBack x R) s
theorem make_new {rest : List Value} (X : (hd.heap_39 w.params).In h)
    (hq : wpAny (model prog w) (A.under (.builtin "type.__call__" ⟨.ref 569 :: rest, []⟩)) (getAttr (.ref 569) "__new__") (fun new s₁ => wpAny (model prog w) (A.under (.builtin "type.__call__" ⟨.ref 569 :: rest, []⟩)) (call new (.ref 569 :: rest)) (NewBack prog w (A.under (.builtin "type.__call__" ⟨.ref 569 :: rest, []⟩)) rest R) (fun e s' => R (.error e) s') s₁) (fun e s' => R (.error e) s') ⟨h, g, d, t, os⟩) :
    codeAny (model prog w) A (.call (.ref 569) ⟨rest, []⟩) R ⟨h, g, d, t, os⟩ := by
  obtain ⟨oc, od, cd, sl, hC, e1, e2⟩ := clsOk_of (C := 569) X (by first | rfl | kernel_rfl)
  have call := lk_call (prog := prog) X
  have typ := lk_typ (prog := prog) X
  have made := lk_made (prog := prog) X
  obtain ⟨l, hm, e4⟩ := lk_mro (prog := prog) X
  refine codeAny_of_tree ?_
  show wpAny _ _ (callAny (.ref 569) _) _ _ _
  refine nd_load hC ?_
  show wpAny _ _ (callAny.viaDunder (.ref 569) _) _ _ _
  unfold callAny.viaDunder
  refine wpAny_bind (call.at ?_)
  dsimp only
  rw [tc_bind]
  refine wpAny_bind (wpAny_pure (wpAny_bind (wpAny_pure ?_)))
  refine wpAny_pure (a := Fin.again (.call (.builtin "type.__call__") ⟨.ref 569 :: rest, []⟩)) (And.intro rfl ?_)
  refine codeAny_call_builtin_at (Code.quiet_builtin _ (by decide +kernel)) entry_typeCall (check_slot tc_kind tc_split typ (tc_args _ _ _) ?_)
  unfold Builtin.«type.__call__»
  refine wpAny_bind (hm.at ?_)
  rw [e4, if_neg (by decide)]
  refine wpAny_bind (made.at ?_)
  dsimp only
  refine wpAny_bind (wpAny_mono hq (fun new s₁ h₁ => ?_) fun _ _ z => z)
  refine wpAny_bind (wpAny_holding (wpAny_mono h₁ (fun obj s₂ h₂ => ?_) fun _ _ z => z))
  obtain ⟨x, dx, rfl, hx, X2, hc⟩ := h₂
  have t1 : Looks (model prog w) s₂.heap (typeOf (.ref x)) (.ref 569) := (Looks.ld hx).andThen .now
  have s1 : Looks (model prog w) s₂.heap (isSubtype (.ref 569) (.ref 569)) true := looks_subIn X2 (by k_is)
  have i1 : Looks (model prog w) s₂.heap (typeLookup (.ref 569) "__init__") (some (.ref 339)) := looks_findIn X2 (by k_is)
  have b1 : Looks (model prog w) s₂.heap (bindSpecial (.ref 339) (.ref x)) (.ref 339, [.ref x]) := bind_fn X2 _ (by k_is)
  unfold isInstance callSpecial? specialOf
  obtain ⟨h2, g2, d2, t2, os2⟩ := s₂
  dsimp only at t1 s1 i1 b1
  repeat (first | with_reducible refine wpAny_call ?_ | lk)
  refine codeAny_mono hc fun r s' z => ?_
  rcases r with e | (v | _ | _ | _) <;> first | exact z | exact z.elim | skip
  obtain ⟨rfl, z⟩ := z
  exact wpAny_pure (wpAny_pure z)
end
theorem lx_newobj {prog : Program} {w : World} {A : Around} {E : Value → Shared → Prop} {s : Shared} {h₀ : Heap} {L : Addr} {m : Str → Option Value} {news : List (Addr × Obj)} {Q : Value → Shared → Prop} (F : Fr h₀ L s.heap m) (N : News h₀ L s.heap news) (X : (hd.heap_39 w.params).In s.heap)
    (h : ∀ (x dx : Nat) h', Fr h₀ L h' m → News h₀ L h' ((x, instObj 569 dx) :: (dx, emptyDict) :: news) → (∀ p ∈ news, p.1 < dx) → dx < x → Q (.ref x) { s with heap := h' }) :
    wpAny (model prog w) A (call (.builtin "object.__new__") [.ref 569]) Q E s := by
  obtain ⟨hh, g, d, t, os⟩ := s
  refine wpAny_call (new_own X ?_)
  refine h _ hh.objs.size _ ((F.push _).push _) ?_ (fun p hp => Heap.lt_size (N p hp).1) (Nat.lt_succ_self _)
  have := (N.push F emptyDict).push (F.push _) (instObj 569 hh.objs.size)
  rwa [Heap.size_push] at this
end
section
theorem reset23 : True := by
  w_top off
  trivial
/-! ### the lines (local) -/
local macro_rules | `(tactic| k_in) => `(tactic| first | with_reducible assumption | exact Frag.In.keeps (by with_reducible assumption) (Fr.keep (by with_reducible assumption)) | exact Frag.In.keeps (by with_reducible assumption) (Fr.keep (by k_asm)))
local macro_rules | `(tactic| k_room) => `(tactic| ktr_room)
/- entry into a def whose ledger is a part of the caller's -/
local macro_rules | `(tactic| ktr_enter) => `(tactic| (refine' code_lx ?k1 ?k2 ?k3 ?k4 ?kO ?k5 ?kA ?kF ?kK ?k6 ?k7 ?k8 ?k9 ?kB ?_ ?c2 ?c3 ?c4 ?c5; (case kA => exact rfl); (case kF => exact rfl); (case kK => first | exact rfl | assumption); (case k1 => k_asm); (case k2 => k_asm); (case k3 => k_asm); (case k4 => k_asm); (case kO => assumption); (case k5 => k_asm); (case k6 => k_is); (case k7 => k_is); (case k8 => k_room); (case k9 => first | exact BindsTo.of_eq rfl | exact binds_K (by k_in) rfl (by k_is) rfl rfl rfl | fail "k_enter: no rule for these arguments"); (case c5 => decide); (case kB => exact locs rfl); (case c2 => exact rfl); (case c3 => exact rfl); (case c4 => exact rfl); k_whole; intro g' L' h' FG' F' N' B' X' T' l1; (try k_lt l1); (try dsimp only); (try k_lift B'); (try k_fold)))
/- apartness -/
local macro_rules | `(tactic| ktr_rel) => `(tactic| first | assumption | ((try simp only [List.cons_append, List.nil_append, List.append_nil]); repeat (first | exact LxOff.nil | refine LxOff.cons (by k_all) ?_)))
/- a dict of six written entries and a tail -/
local macro_rules | `(tactic| k_get) => `(tactic| first
  | (refine' get6_hit ?hm ?h; (case hm => assumption); (case h => k_get))
  | (refine' get6_miss ?hm ?n1 ?n2 ?h; (case hm => assumption); (case n1 => decide +kernel); (case n2 => decide +kernel); (case h => k_get))
  | (refine' get6_is ?hm ?h ?h2; (case hm => assumption); (case h => k_get); (case h2 => (intro h9; exact absurd (h9.symm.trans (by k_get)) (by nofun)))))
local macro_rules | `(tactic| k_put) => `(tactic| (refine' put6 ?hm ?h; (case hm => assumption); (case h => k_put)))
local macro_rules | `(tactic| walk_at "setAttr ref") => `(tactic| (k_here; k_dflt ((refine' set_dict ?k1 ?k2 ?k3 ?k4 ?k5 ?k6 ?k7 ?k8 ?k9 ?k10 ?k11 ?k12 ?k13 ?_; (case k1 => k_asm); (case k2 => k_asm); (case k3 => k_asm); (case k4 => k_inst); (case k5 => exact rfl); (case k6 => k_is); (case k7 => k_is); (case k8 => k_is); (case k9 => k_is); (case k10 => k_get); (case k11 => k_put); (case k12 => k_upd); (case k13 => first | exact Nat.le_of_ble_eq_true rfl | (have h9 := MoreOk.len (by assumption); simp only [List.length_cons]; omega)); k_whole; intro h' F' N'; (try k_sweep)))))
local macro_rules | `(tactic| walk_at "call builtin:list.extend") => `(tactic| (k_here; (with_reducible show wpAny _ _ (call (Value.builtin _) [Value.ref _, Value.str _ _]) _ _ _); k_dflt (first
  | (refine' lx_extend0 ?hh ?F ?N ?D ?_; (case hh => exact rfl); (case F => k_asm); (case N => k_asm); (case D => k_mem); intro h' tk' F' N'; (try k_sweep))
  | (refine' lx_extend1 ?hh ?F ?N ?U ?_; (case hh => exact rfl); (case F => k_asm); (case N => k_asm); (case U => k_updF); intro h' tk' u' c' F' N'; (try dsimp only at N'); (try k_sweep)))))
local macro_rules | `(tactic| walk_at "call type:list") => `(tactic| (k_here; (with_reducible show wpAny _ _ (call (Value.type _) [Value.str _ _]) _ _ _); k_dflt (first
  | (refine' lx_list0 ?hh ?F ?N ?_; (case hh => exact rfl); (case F => k_asm); (case N => k_asm); intro p' h' tk' c' F' N' l1; (try k_lt l1); (try k_sweep))
  | (refine' lx_list1 ?hh ?F ?N ?_; (case hh => exact rfl); (case F => k_asm); (case N => k_asm); intro p' h' tk' u' c' F' N' l1; (try k_lt l1); (try k_sweep)))))
local macro_rules | `(tactic| tb_rel) => `(tactic| (refine' cb_drop ?cN ?cS; (case cN => assumption); (case cS => (repeat (first | exact List.forall_mem_nil _ | refine List.forall_mem_cons.mpr ⟨by k_mem, ?_⟩)))))
local macro_rules | `(tactic| k_enter) => `(tactic| (kp_kind "both"; (refine' kp_both ?k1 ?k2 ?k3 ?k4 ?k5 ?kA ?kF ?kK ?k6 ?k7 ?k8 ?kV ?kX ?kQ ?kM ?kN ?kD ?kR ?kP ?kS ?kT ?kB ?_ ?c2 ?c3 ?c4 ?c5; (case kA => exact rfl); (case kF => exact rfl); (case kK => first | exact rfl | assumption); (case k1 => k_asm); (case k2 => k_asm); (case k3 => k_asm); (case k4 => k_asm); (case k5 => k_asm); (case k6 => k_is); (case k7 => k_is); (case k8 => k_room); (case kV => kp_lit); (case kX => kp_lit); (case kQ => exact rfl); (case kM => exact rfl); (case kN => exact rfl); (case kD => kp_flats); (case kR => exact rfl); (case kP => exact rfl); (case kS => exact fun _ => rfl); (case kT => exact fun _ _ => rfl); (case kB => exact fun _ _ => locs rfl); (case c5 => decide); (case c2 => exact rfl); (case c3 => exact rfl); (case c4 => exact rfl); k_whole; intro C' D' o' g' L' h' tk' l1 l2 lo' hs' fs' FG' F' N' B' X' T'; (try k_lt l1); (try k_lt2 l2); (try dsimp only); (try k_lift B'); (try k_fold))))
local macro_rules | `(tactic| walk_at "call builtin:object.__new__") => `(tactic| (k_here; k_dflt (refine' lx_newobj ?F ?N ?X ?_; (case F => k_asm); (case N => k_asm); (case X => k_in); intro x' dx' h' F' N' l1 l2; (try k_sweep))))
/-! ### making a StringIO -/
theorem sioInit_c {prog : Program} {w : World} {p : Program} {loose : List Str} {mean : ExcName → Option Value} {mg mb : Str → Option Value}
    {dp un : Nat} {gd : Option (List Code)} {cn : Str} {cs : Scope} {a : Addr} {ccd : Value} {cl : List (Str × Addr)} {outer : List Env} {A₀ : Around} {base h₀ : Heap} {L : Addr} {m : Str → Option Value} {s : Shared} {Q E : Value → Shared → Prop}
    {f df : Nat} {l : List Nat} {tl : Tok} {pre post : List (Addr × Obj)}
    (B : Below A₀ base outer h₀) (F : Fr h₀ L s.heap m) (X : (hd.heap_39 w.params).In h₀) (N : News h₀ L s.heap (pre ++ ([(f, instObj 569 df), (df, emptyDict)] ++ post)))
    (Tp : Top p loose mean mg mb h₀) (hcs : cs.kind = .function) (hdp : dp + 4 < recursionLimit) (hun : un + 60 < cLine)
    (hoff : LxOff [(f, instObj 569 df), (df, emptyDict)] (pre ++ post)) (hside : df < f ∧ (tx l).length ≤ 1000)
    (hret : ∀ z tp h' tk', Fr h₀ L h' m → News h₀ L h' (pre ++ ([(f, instObj 569 df), (df, sioObj w z l 0 tp)] ++ post)) → Q .none { s with heap := h', toks := tk' }) :
    codeAny (model prog w) (ktrTop dp un gd cn cs L a ccd cl outer) (.call (.ref 339) ⟨[.ref f, .str (tx l) tl], []⟩) (LxR Q E) s := by
  obtain ⟨h1, hT⟩ := hside
  k_dflt ktr_enter
  k_steps
  · intro lift
    (try dsimp only)
    refine' lx_use (lift [(f, instObj 569 df), (df, sioObj w ⟨_, _, _, _, _⟩ l 0 _)] _ ?n1a ?n2a) ?mma
    case n1a => tb_rel
    case n2a => tb_rel
    case mma =>
      intro LL
      exact hret _ _ _ _ (by assumption) LL.1
theorem under_make {dp un : Nat} {gd : Option (List Code)} {cn : Str} {cs : Scope} {L a : Addr} {ccd : Value} {cl : List (Str × Addr)} {outer : List Env} {C : Addr} {rest : List Value} {kw : List (Str × Value)} :
    (ktrTop dp un gd cn cs L a ccd cl outer).under (.builtin "type.__call__" ⟨.ref C :: rest, kw⟩) = ktrTop (dp + 1) (un + 1) gd cn cs L a ccd cl outer := by
  rfl
theorem sioNew_c {prog : Program} {w : World} {p : Program} {loose : List Str} {mean : ExcName → Option Value} {mg mb : Str → Option Value}
    {dp un : Nat} {gd : Option (List Code)} {cn : Str} {cs : Scope} {a : Addr} {ccd : Value} {cl : List (Str × Addr)} {outer : List Env} {A₀ : Around} {base h₀ : Heap} {L : Addr} {m : Str → Option Value} {s : Shared} {Q E : Value → Shared → Prop}
    {l : List Nat} {tl : Tok} {rest : List (Addr × Obj)}
    (B : Below A₀ base outer h₀) (F : Fr h₀ L s.heap m) (X : (hd.heap_39 w.params).In h₀) (N : News h₀ L s.heap rest)
    (Tp : Top p loose mean mg mb h₀) (hcs : cs.kind = .function) (hdp : dp + 8 < recursionLimit) (hun : un + 100 < cLine) (hT : (tx l).length ≤ 1000)
    (hret : ∀ (f df : Nat) z tp h' tk', (∀ p ∈ rest, p.1 < df) → df < f → Fr h₀ L h' m → News h₀ L h' ((f, instObj 569 df) :: (df, sioObj w z l 0 tp) :: rest) → Q (.ref f) { s with heap := h', toks := tk' }) :
    codeAny (model prog w) (ktrTop dp un gd cn cs L a ccd cl outer) (.call (.ref 569) ⟨[.str (tx l) tl], []⟩) (LxR Q E) s := by
  obtain ⟨hp, g, d, t, os⟩ := s
  dsimp only at F N hret
  refine make_new (X.keeps F.keep) ?_
  k_steps
  rename News h₀ _ _ _ => NN
  rename ∀ p ∈ _ :: _ :: rest, p.1 < _ => ll
  rename Fr h₀ _ _ _ => FF
  refine ⟨_, _, rfl, (NN _ (.head _)).1, by k_in, ?_⟩
  rw [under_make]
  refine codeAny_mono (sioInit_c (Q := fun v s' => v = .none ∧ LxR Q E (.ok (.ret (.ref _))) s') (E := E) (pre := []) B FF X NN Tp hcs (by omega) (by omega) ?_ ⟨by assumption, hT⟩ fun z tp h' tk' F' N' => ⟨rfl, hret _ _ z tp h' tk' (fun p hp => ll p (.tail _ (.tail _ hp))) (by assumption) F' fun p hp => N' p ?_⟩) fun r s' hr => ?_
  · refine .cons (fun q hq => ?_) (.cons (fun q hq => Nat.ne_of_gt (ll q hq)) .nil)
    have h9 := ll q hq
    exact Nat.ne_of_gt (Nat.lt_trans h9 (by assumption))
  · rcases List.mem_cons.mp hp with h | hp
    · exact h ▸ .head _
    rcases List.mem_cons.mp hp with h | hp
    · exact h ▸ .tail _ (.head _)
    · exact .tail _ (.tail _ (.tail _ (.tail _ hp)))
  · cases r with
    | error e => exact hr
    | ok fl => cases fl <;> exact hr
end
section
theorem reset24 : True := by
  w_top off
  trivial
/-! ### the lines (local) -/
local macro_rules | `(tactic| k_in) => `(tactic| first | with_reducible assumption | exact Frag.In.keeps (by with_reducible assumption) (Fr.keep (by with_reducible assumption)) | exact Frag.In.keeps (by with_reducible assumption) (Fr.keep (by k_asm)))
local macro_rules | `(tactic| k_room) => `(tactic| ktr_room)
/- entry into a def whose ledger is a part of the caller's -/
local macro_rules | `(tactic| ktr_enter) => `(tactic| (refine' code_lx ?k1 ?k2 ?k3 ?k4 ?kO ?k5 ?kA ?kF ?kK ?k6 ?k7 ?k8 ?k9 ?kB ?_ ?c2 ?c3 ?c4 ?c5; (case kA => exact rfl); (case kF => exact rfl); (case kK => first | exact rfl | assumption); (case k1 => k_asm); (case k2 => k_asm); (case k3 => k_asm); (case k4 => k_asm); (case kO => assumption); (case k5 => k_asm); (case k6 => k_is); (case k7 => k_is); (case k8 => k_room); (case k9 => first | exact BindsTo.of_eq rfl | exact binds_K (by k_in) rfl (by k_is) rfl rfl rfl | fail "k_enter: no rule for these arguments"); (case c5 => decide); (case kB => exact locs rfl); (case c2 => exact rfl); (case c3 => exact rfl); (case c4 => exact rfl); k_whole; intro g' L' h' FG' F' N' B' X' T' l1; (try k_lt l1); (try dsimp only); (try k_lift B'); (try k_fold)))
/- apartness -/
local macro_rules | `(tactic| ktr_rel) => `(tactic| first | assumption | ((try simp only [List.cons_append, List.nil_append, List.append_nil]); repeat (first | exact LxOff.nil | refine LxOff.cons (by k_all) ?_)))
/- a dict of six written entries and a tail -/
local macro_rules | `(tactic| k_get) => `(tactic| first
  | (refine' get6_hit ?hm ?h; (case hm => assumption); (case h => k_get))
  | (refine' get6_miss ?hm ?n1 ?n2 ?h; (case hm => assumption); (case n1 => decide +kernel); (case n2 => decide +kernel); (case h => k_get))
  | (refine' get6_is ?hm ?h ?h2; (case hm => assumption); (case h => k_get); (case h2 => (intro h9; exact absurd (h9.symm.trans (by k_get)) (by nofun)))))
local macro_rules | `(tactic| k_put) => `(tactic| (refine' put6 ?hm ?h; (case hm => assumption); (case h => k_put)))
local macro_rules | `(tactic| walk_at "setAttr ref") => `(tactic| (k_here; k_dflt ((refine' set_dict ?k1 ?k2 ?k3 ?k4 ?k5 ?k6 ?k7 ?k8 ?k9 ?k10 ?k11 ?k12 ?k13 ?_; (case k1 => k_asm); (case k2 => k_asm); (case k3 => k_asm); (case k4 => k_inst); (case k5 => exact rfl); (case k6 => k_is); (case k7 => k_is); (case k8 => k_is); (case k9 => k_is); (case k10 => k_get); (case k11 => k_put); (case k12 => k_upd); (case k13 => first | exact Nat.le_of_ble_eq_true rfl | (have h9 := MoreOk.len (by assumption); simp only [List.length_cons]; omega)); k_whole; intro h' F' N'; (try k_sweep)))))
local macro_rules | `(tactic| walk_at "call builtin:list.extend") => `(tactic| (k_here; (with_reducible show wpAny _ _ (call (Value.builtin _) [Value.ref _, Value.str _ _]) _ _ _); k_dflt (first
  | (refine' lx_extend0 ?hh ?F ?N ?D ?_; (case hh => exact rfl); (case F => k_asm); (case N => k_asm); (case D => k_mem); intro h' tk' F' N'; (try k_sweep))
  | (refine' lx_extend1 ?hh ?F ?N ?U ?_; (case hh => exact rfl); (case F => k_asm); (case N => k_asm); (case U => k_updF); intro h' tk' u' c' F' N'; (try dsimp only at N'); (try k_sweep)))))
local macro_rules | `(tactic| walk_at "call type:list") => `(tactic| (k_here; (with_reducible show wpAny _ _ (call (Value.type _) [Value.str _ _]) _ _ _); k_dflt (first
  | (refine' lx_list0 ?hh ?F ?N ?_; (case hh => exact rfl); (case F => k_asm); (case N => k_asm); intro p' h' tk' c' F' N' l1; (try k_lt l1); (try k_sweep))
  | (refine' lx_list1 ?hh ?F ?N ?_; (case hh => exact rfl); (case F => k_asm); (case N => k_asm); intro p' h' tk' u' c' F' N' l1; (try k_lt l1); (try k_sweep)))))
local macro_rules | `(tactic| tb_rel) => `(tactic| (refine' cb_drop ?cN ?cS; (case cN => assumption); (case cS => (repeat (first | exact List.forall_mem_nil _ | refine List.forall_mem_cons.mpr ⟨by k_mem, ?_⟩)))))
/-! ### hasattr(text, "read"), hasattr(octets, "read"): no -/
theorem lk_str_read : typeLookup (.type "str") (Str.ofString "read") = pure none := by rw [typeLookup_type, builtinLookup_eq_fast]; kernel_rfl
theorem lk_bytes_read : typeLookup (.type "bytes") (Str.ofString "read") = pure none := by rw [typeLookup_type, builtinLookup_eq_fast]; kernel_rfl
theorem lk_str_ga' : typeLookup (.type "str") (Str.ofString "__getattr__") = pure none := by rw [typeLookup_type, builtinLookup_eq_fast]; kernel_rfl
theorem lk_bytes_ga' : typeLookup (.type "bytes") (Str.ofString "__getattr__") = pure none := by rw [typeLookup_type, builtinLookup_eq_fast]; kernel_rfl
theorem sub_ae : isSubtype (.type "AttributeError") (.type "AttributeError") = pure true := by rw [isSubtype_type]; kernel_rfl
theorem tn_str : typeName (.type "str") = pure "str" := by first | rfl | kernel_rfl
theorem tn_bytes : typeName (.type "bytes") = pure "bytes" := by first | rfl | kernel_rfl
theorem entry_hasattr : entryFor table "hasattr" = some Builtin.«hasattr» := entryFor_of_tree (by kernel_rfl)
theorem args_hasattr (a b : Value) : argsOk "hasattr" ⟨[a, b], []⟩ := by unfold argsOk; kernel_rfl
section
variable {prog : Program} {w : World} {A : Around} {E : Value → Shared → Prop} {h : Heap} {g : Array GenState} {d : Drawn} {t : Nat} {os : OsState} {x : Str} {u : Tok} {n : Array UInt8}
theorem lx_attrErr {α : Type} {v : Value} {name msg : Str} {Q : α → Shared → Prop} (hh : A.handled = none) (hm : msg.length ≤ sizeLine)
    (hE : ∀ (h' : Heap) (tk' : Nat) (e : Addr), (∀ b o, h.get? b = some o → h'.get? b = some o) → (⟨h', g, d, tk', os⟩ : Shared).TypeIs (.ref e) "AttributeError" → E (.ref e) ⟨h', g, d, tk', os⟩) :
    wpAny (model prog w) A (raiseAttrError v name msg : Sem α) Q E ⟨h, g, d, t, os⟩ := by
  unfold raiseAttrError
  refine wpAny_bind (wpAny_mkStr (hx := hm) (wpAny_bind ?_))
  unfold newExc newTuple
  refine wpAny_bind (wpAny_newObj_type ?_)
  refine wpAny_bind (m := firstArgMember _ _) (wpAny_of_eq (a := Value.none) (by first | rfl | kernel_rfl) ?_)
  refine wpAny_newObj_type ?_
  obtain ⟨h1, hh1⟩ : ∃ h1, h1 = h.push { cls := .type "tuple", data := .seq ([Value.str msg t] : List Value).toArray } := ⟨_, rfl⟩
  obtain ⟨o, ho⟩ : ∃ o : Obj, o = { cls := .type "AttributeError", data := .fields (#[.ref h.objs.size, .none, .none, .none, .bool false, .none] ++ ownMembersOf (.type "AttributeError") [Value.str msg t]) } := ⟨_, rfl⟩
  obtain ⟨h2, hh2⟩ : ∃ h2, h2 = h1.push o := ⟨_, rfl⟩
  have he : h2.get? h1.objs.size = some o := by rw [hh2]; exact Heap.get?_push_size _ (by rw [ho]; rfl)
  have k2 : ∀ b o', h.get? b = some o' → h2.get? b = some o' ∧ b ≠ h1.objs.size := fun b o' e => by
    have e1 : h1.get? b = some o' := by rw [hh1]; exact Heap.get?_push_of_some _ e
    exact ⟨by rw [hh2]; exact Heap.get?_push_of_some _ e1, Nat.ne_of_lt (Heap.lt_size e1)⟩
  show wpAny (model prog w) A (mkText name >>= fun nm => noteAttr (.ref (h.push { cls := .type "tuple", data := .seq ([Value.str msg t] : List Value).toArray }).objs.size) v nm >>= fun _ => raiseNew (.ref (h.push { cls := .type "tuple", data := .seq ([Value.str msg t] : List Value).toArray }).objs.size)) Q E ⟨(h.push { cls := .type "tuple", data := .seq ([Value.str msg t] : List Value).toArray }).push { cls := .type "AttributeError", data := .fields (#[.ref h.objs.size, .none, .none, .none, .bool false, .none] ++ ownMembersOf (.type "AttributeError") [Value.str msg t]) }, g, d, t + 1, os⟩
  rw [← hh1, ← ho, ← hh2]
  have hT : (⟨h2, g, d, t + 1 + 1, os⟩ : Shared).TypeIs (.ref h1.objs.size) "AttributeError" := ⟨o, he, by rw [ho]⟩
  refine wpAny_bind (wpAny_mkText ?_)
  unfold noteAttr lacksNameAndObj
  refine wpAny_bind (wpAny_bind (wpAny_bind (wpAny_isInstance hT sub_ae ?_)))
  refine wpAny_bind (wpAny_load he ?_)
  rw [ho]
  refine wpAny_pure ?_
  refine wpAny_bind (wpAny_rule (wpAny_bind (wpAny_typeOf hT ?_)))
  unfold layMembers
  refine wpAny_bind (wpAny_load he ?_)
  rw [ho]
  refine wpAny_update he ?_
  refine wpAny_raiseNew_none hh ?_
  refine hE _ _ _ (fun b o' e => (Heap.get?_update_other _ _ (fun q => (k2 b o' e).2 q.symm)).trans (k2 b o' e).1) ⟨_, Heap.get?_update_self _ he (by rw [ho]; rfl), by rw [ho]; rfl⟩
theorem lx_noread_str {tk : Tok} {Q : Fin → Shared → Prop} (hh : A.handled = none)
    (hE : ∀ (h' : Heap) (tk' : Nat) (e : Addr), (∀ b o, h.get? b = some o → h'.get? b = some o) → (⟨h', g, d, tk', os⟩ : Shared).TypeIs (.ref e) "AttributeError" → E (.ref e) ⟨h', g, d, tk', os⟩) :
    wpAny (model prog w) A (Builtin.«object.__getattribute__» ⟨[.str x u, .str (Str.ofString "read") tk], []⟩) Q E ⟨h, g, d, t, os⟩ := by
  have hT : (⟨h, g, d, t, os⟩ : Shared).TypeIs (.str x u) "str" := rfl
  have f4 := lk_str_read
  show wpAny _ _ (slotArgs "__getattribute__" 1 _ >>= _) _ _ _
  refine wpAny_bind (wpAny_of_eq (a := (.str x u, [Value.str (Str.ofString "read") tk])) (by first | rfl | kernel_rfl) ?_)
  refine wpAny_bind (wpAny_pure (wpAny_bind (wpAny_typeOf hT ?_)))
  refine wpAny_bind ?_
  unfold Builtin.ObjectAttr.find
  refine wpAny_bind (wpAny_of_eq f4 ?_)
  refine wpAny_bind (wpAny_pure (wpAny_bind (wpAny_pure ?_)))
  show wpAny _ _ (Builtin.ObjectAttr.ownThenClass (.str x u) (Str.ofString "read") none none) _ _ _
  refine wpAny_bind (wpAny_pure (wpAny_bind (wpAny_pure (wpAny_bind (wpAny_rule (wpAny_pure ?_))))))
  have g1 : (Value.type "str" == Value.type "module") = false := by decide
  have g2 : (Value.type "str" == Value.type "type") = false := by decide
  simp only [g1, g2, Bool.false_eq_true, if_false]
  unfold Builtin.ObjectAttr.noSuchAttribute typeNameOfCut shownTypeOf
  refine wpAny_bind (wpAny_bind (wpAny_bind (wpAny_typeOf hT ?_)))
  have g3 : (Value.type "str" == Value.type "builtin_function_or_method") = false := by decide
  simp only [g3, Bool.false_eq_true, if_false]
  refine wpAny_pure ?_
  show wpAny _ _ (typeName (.type "str")) _ _ _
  refine wpAny_of_eq tn_str ?_
  exact lx_attrErr hh (by decide +kernel) hE
theorem lx_noattr_str {tk : Tok} {Q : Option Value → Shared → Prop} (hh : A.handled = none)
    (hq : ∀ (h' : Heap) (tk' : Nat), (∀ b o, h.get? b = some o → h'.get? b = some o) → Q none ⟨h', g, d, tk', os⟩) :
    wpAny (model prog w) A (getAttrBy? (.str x u) (.str (Str.ofString "read") tk)) Q E ⟨h, g, d, t, os⟩ := by
  have hT : (⟨h, g, d, t, os⟩ : Shared).TypeIs (.str x u) "str" := rfl
  unfold getAttrBy? getAttrBy
  refine wpAny_bind (wpAny_attempt (wpAny_holding (wpAny_bind (wpAny_typeOf hT (wpAny_bind (wpAny_of_eq F.slot_str_getattribute.lookup ?_))))))
  show wpAny _ _ (getAttrByItsOwn (.str x u) (.str (Str.ofString "read") tk) (.type "str") _ false false) _ _ _
  unfold getAttrByItsOwn
  refine wpAny_bind (wpAny_pure (wpAny_bind (wpAny_attempt (wpAny_holding ?_))))
  show wpAny _ _ (boundAndCalled _ _ _) _ _ _
  unfold boundAndCalled
  rw [F.slot_str_getattribute.bind]
  refine wpAny_bind (wpAny_pure ?_)
  refine wpAny_call (codeAny_call_builtin F.slot_str_getattribute.plain F.entry_object_getattribute (F.slot_str_getattribute.check _ _ _ _ _ _ _ _ hT (F.args_object_getattribute_2 _ _) (lx_noread_str hh fun h' tk' e hk hTe => ?_)))
  show wpAny _ _ (getattributeRaised _ _ _ (.ref e) _ false false) _ _ _
  unfold getattributeRaised
  refine wpAny_bind (wpAny_isInstance hTe sub_ae ?_)
  rw [if_pos rfl]
  show wpAny _ _ (typeLookup (.type "str") (Str.ofString "__getattr__") >>= _) _ _ _
  refine wpAny_bind (wpAny_of_eq lk_str_ga' ?_)
  refine wpAny_throw ?_
  show wpAny _ _ (isInstance (.ref e) (.type "AttributeError") >>= _) _ _ _
  refine wpAny_bind (wpAny_isInstance hTe sub_ae ?_)
  rw [if_pos rfl]
  exact wpAny_pure (hq h' tk' hk)
theorem lx_hasattr_str {tk : Tok} {Q : Value → Shared → Prop} (hh : A.handled = none)
    (hq : ∀ (h' : Heap) (tk' : Nat), (∀ b o, h.get? b = some o → h'.get? b = some o) → Q (.bool false) ⟨h', g, d, tk', os⟩) :
    wpAny (model prog w) A (call (.builtin "hasattr") [.str x u, .str (Str.ofString "read") tk]) Q E ⟨h, g, d, t, os⟩ := by
  have hT : (⟨h, g, d, t, os⟩ : Shared).TypeIs (.str x u) "str" := rfl
  refine call_function_any (by decide +kernel) (by decide +kernel) entry_hasattr (args_hasattr _ _) ?_
  unfold Builtin.«hasattr»
  refine wpAny_bind (wpAny_of_eq (a := [.str x u, Value.str (Str.ofString "read") tk]) (by first | rfl | kernel_rfl) ?_)
  refine wpAny_bind (wpAny_pure ?_)
  have g0 : ∀ i : String, (Value.str x u == Value.builtin i) = false := fun _ => rfl
  simp only [g0, Bool.false_eq_true, if_false]
  refine wpAny_bind (wpAny_typeOf hT ?_)
  dsimp only
  refine wpAny_bind (wpAny_of_eq (a := some (Str.ofString "read")) (by first | rfl | kernel_rfl) ?_)
  dsimp only
  refine wpAny_bind (wpAny_of_eq lk_str_read ?_)
  dsimp only
  refine wpAny_bind (wpAny_of_eq (a := 0) rfl ?_)
  rw [if_neg (by decide)]
  refine wpAny_bind (lx_noattr_str (A := A.in1) hh fun h' tk' hk => ?_)
  exact wpAny_pure (hq h' tk' hk)
theorem lx_noread_bytes {tk : Tok} {Q : Fin → Shared → Prop} (hh : A.handled = none)
    (hE : ∀ (h' : Heap) (tk' : Nat) (e : Addr), (∀ b o, h.get? b = some o → h'.get? b = some o) → (⟨h', g, d, tk', os⟩ : Shared).TypeIs (.ref e) "AttributeError" → E (.ref e) ⟨h', g, d, tk', os⟩) :
    wpAny (model prog w) A (Builtin.«object.__getattribute__» ⟨[.bytes n u, .str (Str.ofString "read") tk], []⟩) Q E ⟨h, g, d, t, os⟩ := by
  have hT : (⟨h, g, d, t, os⟩ : Shared).TypeIs (.bytes n u) "bytes" := rfl
  have f4 := lk_bytes_read
  show wpAny _ _ (slotArgs "__getattribute__" 1 _ >>= _) _ _ _
  refine wpAny_bind (wpAny_of_eq (a := (.bytes n u, [Value.str (Str.ofString "read") tk])) (by first | rfl | kernel_rfl) ?_)
  refine wpAny_bind (wpAny_pure (wpAny_bind (wpAny_typeOf hT ?_)))
  refine wpAny_bind ?_
  unfold Builtin.ObjectAttr.find
  refine wpAny_bind (wpAny_of_eq f4 ?_)
  refine wpAny_bind (wpAny_pure (wpAny_bind (wpAny_pure ?_)))
  show wpAny _ _ (Builtin.ObjectAttr.ownThenClass (.bytes n u) (Str.ofString "read") none none) _ _ _
  refine wpAny_bind (wpAny_pure (wpAny_bind (wpAny_pure (wpAny_bind (wpAny_rule (wpAny_pure ?_))))))
  have g1 : (Value.type "bytes" == Value.type "module") = false := by decide
  have g2 : (Value.type "bytes" == Value.type "type") = false := by decide
  simp only [g1, g2, Bool.false_eq_true, if_false]
  unfold Builtin.ObjectAttr.noSuchAttribute typeNameOfCut shownTypeOf
  refine wpAny_bind (wpAny_bind (wpAny_bind (wpAny_typeOf hT ?_)))
  have g3 : (Value.type "bytes" == Value.type "builtin_function_or_method") = false := by decide
  simp only [g3, Bool.false_eq_true, if_false]
  refine wpAny_pure ?_
  show wpAny _ _ (typeName (.type "bytes")) _ _ _
  refine wpAny_of_eq tn_bytes ?_
  exact lx_attrErr hh (by decide +kernel) hE
theorem lx_noattr_bytes {tk : Tok} {Q : Option Value → Shared → Prop} (hh : A.handled = none)
    (hq : ∀ (h' : Heap) (tk' : Nat), (∀ b o, h.get? b = some o → h'.get? b = some o) → Q none ⟨h', g, d, tk', os⟩) :
    wpAny (model prog w) A (getAttrBy? (.bytes n u) (.str (Str.ofString "read") tk)) Q E ⟨h, g, d, t, os⟩ := by
  have hT : (⟨h, g, d, t, os⟩ : Shared).TypeIs (.bytes n u) "bytes" := rfl
  unfold getAttrBy? getAttrBy
  refine wpAny_bind (wpAny_attempt (wpAny_holding (wpAny_bind (wpAny_typeOf hT (wpAny_bind (wpAny_of_eq F.slot_bytes_getattribute.lookup ?_))))))
  show wpAny _ _ (getAttrByItsOwn (.bytes n u) (.str (Str.ofString "read") tk) (.type "bytes") _ false false) _ _ _
  unfold getAttrByItsOwn
  refine wpAny_bind (wpAny_pure (wpAny_bind (wpAny_attempt (wpAny_holding ?_))))
  show wpAny _ _ (boundAndCalled _ _ _) _ _ _
  unfold boundAndCalled
  rw [F.slot_bytes_getattribute.bind]
  refine wpAny_bind (wpAny_pure ?_)
  refine wpAny_call (codeAny_call_builtin F.slot_bytes_getattribute.plain F.entry_bytes_ga (F.slot_bytes_getattribute.check _ _ _ _ _ _ _ _ hT (F.args_bytes_getattribute_2 _ _) (lx_noread_bytes hh fun h' tk' e hk hTe => ?_)))
  show wpAny _ _ (getattributeRaised _ _ _ (.ref e) _ false false) _ _ _
  unfold getattributeRaised
  refine wpAny_bind (wpAny_isInstance hTe sub_ae ?_)
  rw [if_pos rfl]
  show wpAny _ _ (typeLookup (.type "bytes") (Str.ofString "__getattr__") >>= _) _ _ _
  refine wpAny_bind (wpAny_of_eq lk_bytes_ga' ?_)
  refine wpAny_throw ?_
  show wpAny _ _ (isInstance (.ref e) (.type "AttributeError") >>= _) _ _ _
  refine wpAny_bind (wpAny_isInstance hTe sub_ae ?_)
  rw [if_pos rfl]
  exact wpAny_pure (hq h' tk' hk)
theorem lx_hasattr_bytes {tk : Tok} {Q : Value → Shared → Prop} (hh : A.handled = none)
    (hq : ∀ (h' : Heap) (tk' : Nat), (∀ b o, h.get? b = some o → h'.get? b = some o) → Q (.bool false) ⟨h', g, d, tk', os⟩) :
    wpAny (model prog w) A (call (.builtin "hasattr") [.bytes n u, .str (Str.ofString "read") tk]) Q E ⟨h, g, d, t, os⟩ := by
  have hT : (⟨h, g, d, t, os⟩ : Shared).TypeIs (.bytes n u) "bytes" := rfl
  refine call_function_any (by decide +kernel) (by decide +kernel) entry_hasattr (args_hasattr _ _) ?_
  unfold Builtin.«hasattr»
  refine wpAny_bind (wpAny_of_eq (a := [.bytes n u, Value.str (Str.ofString "read") tk]) (by first | rfl | kernel_rfl) ?_)
  refine wpAny_bind (wpAny_pure ?_)
  have g0 : ∀ i : String, (Value.bytes n u == Value.builtin i) = false := fun _ => rfl
  simp only [g0, Bool.false_eq_true, if_false]
  refine wpAny_bind (wpAny_typeOf hT ?_)
  dsimp only
  refine wpAny_bind (wpAny_of_eq (a := some (Str.ofString "read")) (by first | rfl | kernel_rfl) ?_)
  dsimp only
  refine wpAny_bind (wpAny_of_eq lk_bytes_read ?_)
  dsimp only
  refine wpAny_bind (wpAny_of_eq (a := 0) rfl ?_)
  rw [if_neg (by decide)]
  refine wpAny_bind (lx_noattr_bytes (A := A.in1) hh fun h' tk' hk => ?_)
  exact wpAny_pure (hq h' tk' hk)
end
end
section
theorem reset25 : True := by
  w_top off
  trivial
/-! ### the lines (local) -/
local macro_rules | `(tactic| k_in) => `(tactic| first | with_reducible assumption | exact Frag.In.keeps (by with_reducible assumption) (Fr.keep (by with_reducible assumption)) | exact Frag.In.keeps (by with_reducible assumption) (Fr.keep (by k_asm)))
local macro_rules | `(tactic| k_room) => `(tactic| ktr_room)
/- entry into a def whose ledger is a part of the caller's -/
local macro_rules | `(tactic| ktr_enter) => `(tactic| (refine' code_lx ?k1 ?k2 ?k3 ?k4 ?kO ?k5 ?kA ?kF ?kK ?k6 ?k7 ?k8 ?k9 ?kB ?_ ?c2 ?c3 ?c4 ?c5; (case kA => exact rfl); (case kF => exact rfl); (case kK => first | exact rfl | assumption); (case k1 => k_asm); (case k2 => k_asm); (case k3 => k_asm); (case k4 => k_asm); (case kO => assumption); (case k5 => k_asm); (case k6 => k_is); (case k7 => k_is); (case k8 => k_room); (case k9 => first | exact BindsTo.of_eq rfl | exact binds_K (by k_in) rfl (by k_is) rfl rfl rfl | fail "k_enter: no rule for these arguments"); (case c5 => decide); (case kB => exact locs rfl); (case c2 => exact rfl); (case c3 => exact rfl); (case c4 => exact rfl); k_whole; intro g' L' h' FG' F' N' B' X' T' l1; (try k_lt l1); (try dsimp only); (try k_lift B'); (try k_fold)))
/- apartness -/
local macro_rules | `(tactic| ktr_rel) => `(tactic| first | assumption | ((try simp only [List.cons_append, List.nil_append, List.append_nil]); repeat (first | exact LxOff.nil | refine LxOff.cons (by k_all) ?_)))
/- a dict of six written entries and a tail -/
local macro_rules | `(tactic| k_get) => `(tactic| first
  | (refine' get6_hit ?hm ?h; (case hm => assumption); (case h => k_get))
  | (refine' get6_miss ?hm ?n1 ?n2 ?h; (case hm => assumption); (case n1 => decide +kernel); (case n2 => decide +kernel); (case h => k_get))
  | (refine' get6_is ?hm ?h ?h2; (case hm => assumption); (case h => k_get); (case h2 => (intro h9; exact absurd (h9.symm.trans (by k_get)) (by nofun)))))
local macro_rules | `(tactic| k_put) => `(tactic| (refine' put6 ?hm ?h; (case hm => assumption); (case h => k_put)))
local macro_rules | `(tactic| walk_at "setAttr ref") => `(tactic| (k_here; k_dflt ((refine' set_dict ?k1 ?k2 ?k3 ?k4 ?k5 ?k6 ?k7 ?k8 ?k9 ?k10 ?k11 ?k12 ?k13 ?_; (case k1 => k_asm); (case k2 => k_asm); (case k3 => k_asm); (case k4 => k_inst); (case k5 => exact rfl); (case k6 => k_is); (case k7 => k_is); (case k8 => k_is); (case k9 => k_is); (case k10 => k_get); (case k11 => k_put); (case k12 => k_upd); (case k13 => first | exact Nat.le_of_ble_eq_true rfl | (have h9 := MoreOk.len (by assumption); simp only [List.length_cons]; omega)); k_whole; intro h' F' N'; (try k_sweep)))))
local macro_rules | `(tactic| walk_at "call builtin:list.extend") => `(tactic| (k_here; (with_reducible show wpAny _ _ (call (Value.builtin _) [Value.ref _, Value.str _ _]) _ _ _); k_dflt (first
  | (refine' lx_extend0 ?hh ?F ?N ?D ?_; (case hh => exact rfl); (case F => k_asm); (case N => k_asm); (case D => k_mem); intro h' tk' F' N'; (try k_sweep))
  | (refine' lx_extend1 ?hh ?F ?N ?U ?_; (case hh => exact rfl); (case F => k_asm); (case N => k_asm); (case U => k_updF); intro h' tk' u' c' F' N'; (try dsimp only at N'); (try k_sweep)))))
local macro_rules | `(tactic| walk_at "call type:list") => `(tactic| (k_here; (with_reducible show wpAny _ _ (call (Value.type _) [Value.str _ _]) _ _ _); k_dflt (first
  | (refine' lx_list0 ?hh ?F ?N ?_; (case hh => exact rfl); (case F => k_asm); (case N => k_asm); intro p' h' tk' c' F' N' l1; (try k_lt l1); (try k_sweep))
  | (refine' lx_list1 ?hh ?F ?N ?_; (case hh => exact rfl); (case F => k_asm); (case N => k_asm); intro p' h' tk' u' c' F' N' l1; (try k_lt l1); (try k_sweep)))))
local macro_rules | `(tactic| tb_rel) => `(tactic| (refine' cb_drop ?cN ?cS; (case cN => assumption); (case cS => (repeat (first | exact List.forall_mem_nil _ | refine List.forall_mem_cons.mpr ⟨by k_mem, ?_⟩)))))
/-! ### octets of a text of the first 128 signs -/
def oct (l : List Nat) : List UInt8 := l.map (·.toUInt8)
theorem forIn_steps {α β : Type} (f : α → β → Sem (ForInStep β)) (g : Nat → β) : ∀ (xs : List α) (k : Nat), (∀ i x, i < k + xs.length → f x (g i) = pure (.yield (g (i + 1)))) → forIn xs (g k) f = pure (g (k + xs.length))
  | [], k, _ => by rw [List.forIn_nil]; rfl
  | x :: xs, k, h => by
    rw [List.forIn_cons, h k x (by simp)]
    show forIn xs (g (k + 1)) f = _
    rw [forIn_steps f g xs (k + 1) fun i y hi => h i y (by simp only [List.length_cons]; omega)]
    congr 2
    simp only [List.length_cons]
    omega
theorem forIn_from {α β : Type} {f : α → β → Sem (ForInStep β)} {g : Nat → β} {xs : List α} {a : β} (ha : g 0 = a) (h : ∀ i x, i < xs.length → f x (g i) = pure (.yield (g (i + 1)))) : forIn xs a f = pure (g xs.length) := by
  rw [← ha, forIn_steps f g xs 0 fun i x hi => h i x (by omega), Nat.zero_add]
theorem forIn_once {α β : Type} {f : α → β → Sem (ForInStep β)} {xs : List α} {a b : β} (hx : xs ≠ []) (h1 : ∀ x, f x a = pure (.yield b)) (h2 : ∀ x, f x b = pure (.done b)) : forIn xs a f = pure b := by
  cases xs with
  | nil => exact absurd rfl hx
  | cons x xs =>
    rw [List.forIn_cons, h1 x]
    show forIn xs b f = _
    cases xs with
    | nil => rfl
    | cons y ys =>
      rw [List.forIn_cons, h2 y]
      rfl
theorem oct_get {l : List Nat} (hl : ∀ c ∈ l, c < 128) {k : Nat} (h : k < l.length) : ((oct l).toArray.getD k 0).toNat = l[k] := by
  have h2 : k < (oct l).toArray.size := by simpa [oct] using h
  rw [Array.getD_eq_getD_getElem?, Array.getElem?_eq_getElem h2, Option.getD_some]
  simp only [oct, List.getElem_toArray, List.getElem_map]
  have := hl l[k] (List.getElem_mem h)
  show (UInt8.ofNat l[k]).toNat = l[k]
  rw [UInt8.toNat_ofNat']
  omega
section
open Builtin
theorem utf8At_ascii {b : Array UInt8} {p : Nat} (h : (b.getD p 0).toNat < 128) : Bytes.utf8At b p = (.char (b.getD p 0).toNat, p + 1) := by
  unfold Bytes.utf8At
  dsimp only
  rw [if_pos h]
theorem runDec_ascii (id : String) (l : List Nat) (hl : ∀ c ∈ l, c < 128) (hz : l.length ≤ 1000) : _codecs.runDecoder id _codecs.utf8Decoder none true (oct l).toArray 0 [] = pure (l.toArray, l.length) := by
  unfold _codecs.runDecoder
  simp only [Std.Legacy.Range.forIn_eq_forIn_range']
  have hs : (oct l).toArray.size = l.length := by simp [oct]
  have hr : (List.range' 0 [:(oct l).toArray.size].size).length = l.length := by simp [Std.Legacy.Range.size, hs]
  rw [forIn_from (g := fun k => (k, (l.take k).toArray, ({ } : _codecs.Faults))) (by simp)]
  · rw [hr]
    simp only [List.take_length]
    rfl
  · intro i x hi
    have hi' : i < l.length := by rw [hr] at hi; omega
    have h1 : ¬ ((l.take i).toArray.size > sizeLine) := by
      simp only [List.size_toArray, List.length_take]
      unfold sizeLine
      omega
    have h2 : ¬ (i ≥ (oct l).toArray.size) := by rw [hs]; omega
    have h3 : _codecs.utf8Decoder.find true (oct l).toArray i = .char l[i] (i + 1) := by
      have g := oct_get hl hi'
      unfold _codecs.utf8Decoder
      dsimp only
      rw [utf8At_ascii (by rw [g]; exact hl _ (List.getElem_mem hi')), g]
    dsimp only
    rw [if_neg h1, if_neg h2, h3]
    show pure (ForInStep.yield (i + 1, (l.take i).toArray ++ [l[i]].toArray, _)) = _
    congr 3
    rw [List.take_succ_eq_append_getElem hi']
    simp
theorem enc_fold (l : List Nat) (hl : ∀ c ∈ l, c < 128) : ∀ acc : Array UInt8, l.foldl (fun acc y => acc ++ (Str.utf8Of y).toArray) acc = acc ++ (oct l).toArray := by
  induction l with
  | nil => intro acc; simp [oct]
  | cons c r ih =>
    intro acc
    rw [List.foldl_cons, ih fun d hd => hl d (.tail _ hd)]
    have hc : Str.utf8Of c = [c.toUInt8] := by
      unfold Str.utf8Of
      rw [if_pos (hl c (.head _))]
    rw [hc]
    simp [oct]
theorem surr_ascii {l : List Nat} (hl : ∀ c ∈ l, c < 128) : ∀ c ∈ l, _codecs.utf8Codec.bad c = false := fun c hc => by
  have h := hl c hc
  show Str.isSurrogate c = false
  unfold Str.isSurrogate
  have : ¬ (0xD800 ≤ c) := by omega
  simp [this]
theorem enc_ascii (id : String) (v : Value) (l : List Nat) (hl : ∀ c ∈ l, c < 128) (hz : l.length ≤ 1000) : _codecs.encodeNarrow id _codecs.utf8Codec none v (tx l) = pure (oct l).toArray := by
  cases hlc : l with
  | nil =>
    unfold _codecs.encodeNarrow
    simp only [Std.Legacy.Range.forIn_eq_forIn_range']
    rfl
  | cons c r =>
    rw [← hlc]
    have hne : l.length ≠ 0 := by rw [hlc]; simp
    have hb := surr_ascii hl
    unfold _codecs.encodeNarrow
    simp only [Std.Legacy.Range.forIn_eq_forIn_range']
    rw [forIn_once (b := (l.length, (oct l).toArray, ({ } : _codecs.Faults)))]
    · rfl
    · intro h
      have := congrArg List.length h
      simp [Std.Legacy.Range.size, Str.length] at this
      exact hne (by rw [this]; rfl)
    · intro x
      have h0 : l.toArray[0]? = some c := by rw [hlc]; rfl
      have hbc : _codecs.utf8Codec.bad c = false := hb c (by rw [hlc]; exact .head _)
      have hf : Array.findIdx? _codecs.utf8Codec.bad (l.toArray.extract) = none := by
        rw [Array.extract_size, Array.findIdx?_eq_none_iff]
        intro y hy
        exact hb y (by simpa using hy)
      dsimp only
      rw [if_neg (by simp), h0]
      dsimp only
      rw [hbc, if_pos (show ((!false) = true) from rfl), hf]
      congr 2
      have hx : l.toArray.extract 0 l.length = l.toArray := by
        have := Array.extract_size (xs := l.toArray)
        rwa [List.size_toArray] at this
      simp only [Option.getD_none, Array.extract_size, Nat.zero_add, List.size_toArray, hx]
      refine Prod.ext rfl (Prod.ext ?_ rfl)
      dsimp only
      have h9 := enc_fold l hl #[]
      rw [List.foldl_toArray' (h := by simp)]
      exact h9.trans (by simp)
    · intro x
      have h1 : ¬ ((oct l).toArray.size > sizeLine) := by
        simp only [oct, List.size_toArray, List.length_map]
        unfold sizeLine
        omega
      have h0 : l.toArray[l.length]? = none := by simp
      dsimp only
      rw [if_neg h1, h0]
end
end
section
theorem reset26 : True := by
  w_top off
  trivial
/-! ### the lines (local) -/
local macro_rules | `(tactic| k_in) => `(tactic| first | with_reducible assumption | exact Frag.In.keeps (by with_reducible assumption) (Fr.keep (by with_reducible assumption)) | exact Frag.In.keeps (by with_reducible assumption) (Fr.keep (by k_asm)))
local macro_rules | `(tactic| k_room) => `(tactic| ktr_room)
/- entry into a def whose ledger is a part of the caller's -/
local macro_rules | `(tactic| ktr_enter) => `(tactic| (refine' code_lx ?k1 ?k2 ?k3 ?k4 ?kO ?k5 ?kA ?kF ?kK ?k6 ?k7 ?k8 ?k9 ?kB ?_ ?c2 ?c3 ?c4 ?c5; (case kA => exact rfl); (case kF => exact rfl); (case kK => first | exact rfl | assumption); (case k1 => k_asm); (case k2 => k_asm); (case k3 => k_asm); (case k4 => k_asm); (case kO => assumption); (case k5 => k_asm); (case k6 => k_is); (case k7 => k_is); (case k8 => k_room); (case k9 => first | exact BindsTo.of_eq rfl | exact binds_K (by k_in) rfl (by k_is) rfl rfl rfl | fail "k_enter: no rule for these arguments"); (case c5 => decide); (case kB => exact locs rfl); (case c2 => exact rfl); (case c3 => exact rfl); (case c4 => exact rfl); k_whole; intro g' L' h' FG' F' N' B' X' T' l1; (try k_lt l1); (try dsimp only); (try k_lift B'); (try k_fold)))
/- apartness -/
local macro_rules | `(tactic| ktr_rel) => `(tactic| first | assumption | ((try simp only [List.cons_append, List.nil_append, List.append_nil]); repeat (first | exact LxOff.nil | refine LxOff.cons (by k_all) ?_)))
/- a dict of six written entries and a tail -/
local macro_rules | `(tactic| k_get) => `(tactic| first
  | (refine' get6_hit ?hm ?h; (case hm => assumption); (case h => k_get))
  | (refine' get6_miss ?hm ?n1 ?n2 ?h; (case hm => assumption); (case n1 => decide +kernel); (case n2 => decide +kernel); (case h => k_get))
  | (refine' get6_is ?hm ?h ?h2; (case hm => assumption); (case h => k_get); (case h2 => (intro h9; exact absurd (h9.symm.trans (by k_get)) (by nofun)))))
local macro_rules | `(tactic| k_put) => `(tactic| (refine' put6 ?hm ?h; (case hm => assumption); (case h => k_put)))
local macro_rules | `(tactic| walk_at "setAttr ref") => `(tactic| (k_here; k_dflt ((refine' set_dict ?k1 ?k2 ?k3 ?k4 ?k5 ?k6 ?k7 ?k8 ?k9 ?k10 ?k11 ?k12 ?k13 ?_; (case k1 => k_asm); (case k2 => k_asm); (case k3 => k_asm); (case k4 => k_inst); (case k5 => exact rfl); (case k6 => k_is); (case k7 => k_is); (case k8 => k_is); (case k9 => k_is); (case k10 => k_get); (case k11 => k_put); (case k12 => k_upd); (case k13 => first | exact Nat.le_of_ble_eq_true rfl | (have h9 := MoreOk.len (by assumption); simp only [List.length_cons]; omega)); k_whole; intro h' F' N'; (try k_sweep)))))
local macro_rules | `(tactic| walk_at "call builtin:list.extend") => `(tactic| (k_here; (with_reducible show wpAny _ _ (call (Value.builtin _) [Value.ref _, Value.str _ _]) _ _ _); k_dflt (first
  | (refine' lx_extend0 ?hh ?F ?N ?D ?_; (case hh => exact rfl); (case F => k_asm); (case N => k_asm); (case D => k_mem); intro h' tk' F' N'; (try k_sweep))
  | (refine' lx_extend1 ?hh ?F ?N ?U ?_; (case hh => exact rfl); (case F => k_asm); (case N => k_asm); (case U => k_updF); intro h' tk' u' c' F' N'; (try dsimp only at N'); (try k_sweep)))))
local macro_rules | `(tactic| walk_at "call type:list") => `(tactic| (k_here; (with_reducible show wpAny _ _ (call (Value.type _) [Value.str _ _]) _ _ _); k_dflt (first
  | (refine' lx_list0 ?hh ?F ?N ?_; (case hh => exact rfl); (case F => k_asm); (case N => k_asm); intro p' h' tk' c' F' N' l1; (try k_lt l1); (try k_sweep))
  | (refine' lx_list1 ?hh ?F ?N ?_; (case hh => exact rfl); (case F => k_asm); (case N => k_asm); intro p' h' tk' u' c' F' N' l1; (try k_lt l1); (try k_sweep)))))
local macro_rules | `(tactic| tb_rel) => `(tactic| (refine' cb_drop ?cN ?cS; (case cN => assumption); (case cS => (repeat (first | exact List.forall_mem_nil _ | refine List.forall_mem_cons.mpr ⟨by k_mem, ?_⟩)))))
/-! ### the lines of the lexer's making -/
theorem News.upk' {h₀ h h' : Heap} {L : Addr} {news : List (Addr × Obj)} (N : News h₀ L h news) (k : ∀ b o, h.get? b = some o → h'.get? b = some o) : News h₀ L h' news := fun p hp => ⟨k _ _ (N p hp).1, (N p hp).2⟩
theorem Fr.upk' {h₀ h h' : Heap} {L : Addr} {m : Str → Option Value} (F : Fr h₀ L h m) (k : ∀ b o, h.get? b = some o → h'.get? b = some o) : Fr h₀ L h' m := by
  obtain ⟨oL, es, ep, hL, r⟩ := F.ns
  exact ⟨⟨oL, es, ep, k _ _ hL, r⟩, fun b o e => k _ _ (F.keep b o e), F.above⟩
section
variable {prog : Program} {w : World} {A : Around} {E : Value → Shared → Prop} {s : Shared} {h₀ : Heap} {L : Addr} {m : Str → Option Value} {news : List (Addr × Obj)} {Q : Value → Shared → Prop} {x : Str} {n : Array UInt8} {u tk : Tok} {l : List Nat}
theorem lx_has_str (hh : A.handled = none) (F : Fr h₀ L s.heap m) (N : News h₀ L s.heap news) (h : ∀ h' tk', Fr h₀ L h' m → News h₀ L h' news → Q (.bool false) { s with heap := h', toks := tk' }) :
    wpAny (model prog w) A (call (.builtin "hasattr") [.str x u, .str (Str.ofString "read") tk]) Q E s := by
  obtain ⟨hp, g, d, t, os⟩ := s
  exact lx_hasattr_str hh fun h' tk' k => h h' tk' (Fr.upk' F k) (News.upk' N k)
theorem lx_has_bytes (hh : A.handled = none) (F : Fr h₀ L s.heap m) (N : News h₀ L s.heap news) (h : ∀ h' tk', Fr h₀ L h' m → News h₀ L h' news → Q (.bool false) { s with heap := h', toks := tk' }) :
    wpAny (model prog w) A (call (.builtin "hasattr") [.bytes n u, .str (Str.ofString "read") tk]) Q E s := by
  obtain ⟨hp, g, d, t, os⟩ := s
  exact lx_hasattr_bytes hh fun h' tk' k => h h' tk' (Fr.upk' F k) (News.upk' N k)
open Builtin in
theorem lx_encode (hl : ∀ c ∈ l, c < 128) (hz : l.length ≤ 1000) (h : ∀ t' k, Q (.bytes (oct l).toArray t') { s with toks := k }) : wpAny (model prog w) A (call (.builtin "str.encode") [.str (tx l) u]) Q E s := by
  refine wpAny_call (codeAny_call_builtin PySem.F.slot_str_encode.plain PySem.F.entry_str_encode (PySem.F.slot_str_encode.check _ _ _ _ _ _ _ _ (show s.TypeIs (.str (tx l) u) "str" from rfl) (PySem.F.args_str_encode_1 _) ?_))
  rw [encode_tree, encodeRoad_utf8, enc_ascii _ _ _ hl hz]
  refine wpAny_bind (wpAny_bind (wpAny_pure ?_))
  unfold mkBytes
  rw [if_neg (by simp only [oct, List.size_toArray, List.length_map]; unfold sizeLine; omega)]
  exact wpAny_bind (wpAny_fresh (wpAny_pure (wpAny_pure (h _ _))))
theorem lx_decode {c : Nat} (hl : ∀ d ∈ c :: l, d < 128) (hz : (c :: l).length ≤ 1000) (h : ∀ t' k, Q (.str (tx (c :: l)) t') { s with toks := k }) : wpAny (model prog w) A (call (.builtin "bytes.decode") [.bytes (oct (c :: l)).toArray u]) Q E s :=
  KBd.decode (c := c.toUInt8) (cs := oct l) (x := tx (c :: l)) (n := (c :: l).length) (fun id => runDec_ascii id (c :: l) hl hz) (by rw [tx_len]; omega) h
end
end
section
theorem reset27 : True := by
  w_top off
  trivial
/-! ### the lines (local) -/
local macro_rules | `(tactic| k_in) => `(tactic| first | with_reducible assumption | exact Frag.In.keeps (by with_reducible assumption) (Fr.keep (by with_reducible assumption)) | exact Frag.In.keeps (by with_reducible assumption) (Fr.keep (by k_asm)))
local macro_rules | `(tactic| k_room) => `(tactic| ktr_room)
/- entry into a def whose ledger is a part of the caller's -/
local macro_rules | `(tactic| ktr_enter) => `(tactic| (refine' code_lx ?k1 ?k2 ?k3 ?k4 ?kO ?k5 ?kA ?kF ?kK ?k6 ?k7 ?k8 ?k9 ?kB ?_ ?c2 ?c3 ?c4 ?c5; (case kA => exact rfl); (case kF => exact rfl); (case kK => first | exact rfl | assumption); (case k1 => k_asm); (case k2 => k_asm); (case k3 => k_asm); (case k4 => k_asm); (case kO => assumption); (case k5 => k_asm); (case k6 => k_is); (case k7 => k_is); (case k8 => k_room); (case k9 => first | exact BindsTo.of_eq rfl | exact binds_K (by k_in) rfl (by k_is) rfl rfl rfl | fail "k_enter: no rule for these arguments"); (case c5 => decide); (case kB => exact locs rfl); (case c2 => exact rfl); (case c3 => exact rfl); (case c4 => exact rfl); k_whole; intro g' L' h' FG' F' N' B' X' T' l1; (try k_lt l1); (try dsimp only); (try k_lift B'); (try k_fold)))
/- apartness -/
local macro_rules | `(tactic| ktr_rel) => `(tactic| first | assumption | ((try simp only [List.cons_append, List.nil_append, List.append_nil]); repeat (first | exact LxOff.nil | refine LxOff.cons (by k_all) ?_)))
/- a dict of six written entries and a tail -/
local macro_rules | `(tactic| k_get) => `(tactic| first
  | (refine' get6_hit ?hm ?h; (case hm => assumption); (case h => k_get))
  | (refine' get6_miss ?hm ?n1 ?n2 ?h; (case hm => assumption); (case n1 => decide +kernel); (case n2 => decide +kernel); (case h => k_get))
  | (refine' get6_is ?hm ?h ?h2; (case hm => assumption); (case h => k_get); (case h2 => (intro h9; exact absurd (h9.symm.trans (by k_get)) (by nofun)))))
local macro_rules | `(tactic| k_put) => `(tactic| (refine' put6 ?hm ?h; (case hm => assumption); (case h => k_put)))
local macro_rules | `(tactic| walk_at "setAttr ref") => `(tactic| (k_here; k_dflt ((refine' set_dict ?k1 ?k2 ?k3 ?k4 ?k5 ?k6 ?k7 ?k8 ?k9 ?k10 ?k11 ?k12 ?k13 ?_; (case k1 => k_asm); (case k2 => k_asm); (case k3 => k_asm); (case k4 => k_inst); (case k5 => exact rfl); (case k6 => k_is); (case k7 => k_is); (case k8 => k_is); (case k9 => k_is); (case k10 => k_get); (case k11 => k_put); (case k12 => k_upd); (case k13 => first | exact Nat.le_of_ble_eq_true rfl | (have h9 := MoreOk.len (by assumption); simp only [List.length_cons]; omega)); k_whole; intro h' F' N'; (try k_sweep)))))
local macro_rules | `(tactic| walk_at "call builtin:list.extend") => `(tactic| (k_here; (with_reducible show wpAny _ _ (call (Value.builtin _) [Value.ref _, Value.str _ _]) _ _ _); k_dflt (first
  | (refine' lx_extend0 ?hh ?F ?N ?D ?_; (case hh => exact rfl); (case F => k_asm); (case N => k_asm); (case D => k_mem); intro h' tk' F' N'; (try k_sweep))
  | (refine' lx_extend1 ?hh ?F ?N ?U ?_; (case hh => exact rfl); (case F => k_asm); (case N => k_asm); (case U => k_updF); intro h' tk' u' c' F' N'; (try dsimp only at N'); (try k_sweep)))))
local macro_rules | `(tactic| walk_at "call type:list") => `(tactic| (k_here; (with_reducible show wpAny _ _ (call (Value.type _) [Value.str _ _]) _ _ _); k_dflt (first
  | (refine' lx_list0 ?hh ?F ?N ?_; (case hh => exact rfl); (case F => k_asm); (case N => k_asm); intro p' h' tk' c' F' N' l1; (try k_lt l1); (try k_sweep))
  | (refine' lx_list1 ?hh ?F ?N ?_; (case hh => exact rfl); (case F => k_asm); (case N => k_asm); intro p' h' tk' u' c' F' N' l1; (try k_lt l1); (try k_sweep)))))
local macro_rules | `(tactic| tb_rel) => `(tactic| (refine' cb_drop ?cN ?cS; (case cN => assumption); (case cS => (repeat (first | exact List.forall_mem_nil _ | refine List.forall_mem_cons.mpr ⟨by k_mem, ?_⟩)))))
/- hasattr, StringIO(..), octets -/
local macro_rules | `(tactic| walk_at "call builtin:hasattr") => `(tactic| (k_here; (with_reducible show wpAny _ _ (call (Value.builtin _) [Value.str _ _, Value.str _ _]) _ _ _); k_dflt (refine' lx_has_str ?hh ?F ?N ?_; (case hh => exact rfl); (case F => k_asm); (case N => k_asm); intro h' tk' F' N'; (try k_sweep))))
local macro_rules | `(tactic| walk_at "call builtin:hasattr") => `(tactic| (k_here; (with_reducible show wpAny _ _ (call (Value.builtin _) [Value.bytes _ _, Value.str _ _]) _ _ _); k_dflt (refine' lx_has_bytes ?hh ?F ?N ?_; (case hh => exact rfl); (case F => k_asm); (case N => k_asm); intro h' tk' F' N'; (try k_sweep))))
local macro_rules | `(tactic| walk_at "call builtin:str.encode") => `(tactic| (k_here; (with_reducible show wpAny _ _ (call (Value.builtin _) [Value.str _ _]) _ _ _); k_dflt (refine' lx_encode ?h1 ?h2 ?_; (case h1 => assumption); (case h2 => first | assumption | omega); intro t' k')))
local macro_rules | `(tactic| walk_at "call builtin:bytes.decode") => `(tactic| (k_here; (with_reducible show wpAny _ _ (call (Value.builtin _) [Value.bytes _ _]) _ _ _); k_dflt (refine' lx_decode ?h1 ?h2 ?_; (case h1 => assumption); (case h2 => first | assumption | omega); intro t' k')))
local macro_rules | `(tactic| walk_at "call ref") => `(tactic| (k_here; (with_reducible show wpAny _ _ (call (Value.ref 569) [Value.str _ _] []) _ _ _); k_dflt (refine' lx_call (sioNew_c ?k1 ?k2 ?k3 ?k4 ?k5 ?kK ?kd ?ku ?kT ?_); (case k4 => k_asm); (case k1 => k_asm); (case k2 => k_asm); (case k3 => k_asm); (case k5 => k_asm); (case kK => first | exact rfl | assumption); (case kd => ktr_room); (case ku => ktr_units); (case kT => assumption); intro f' df' z' tp' h' tk' l1 l2 F' N'; (try k_lt l1); (try dsimp only); (try k_fold); (try k_sweep))))
/-! ### Lexer.__init__ -/
theorem lexInit_str {prog : Program} {w : World} {p : Program} {loose : List Str} {mean : ExcName → Option Value} {mg mb : Str → Option Value}
    {dp un : Nat} {gd : Option (List Code)} {cn : Str} {cs : Scope} {a : Addr} {ccd : Value} {cl : List (Str × Addr)} {outer : List Env} {A₀ : Around} {base h₀ : Heap} {L : Addr} {m : Str → Option Value} {s : Shared} {Q E : Value → Shared → Prop}
    {x dx : Nat} {l : List Nat} {tl : Tok} {pre post : List (Addr × Obj)}
    (B : Below A₀ base outer h₀) (F : Fr h₀ L s.heap m) (X : (hd.heap_39 w.params).In h₀) (N : News h₀ L s.heap (pre ++ ([(x, instObj 690 dx), (dx, emptyDict)] ++ post)))
    (Tp : Top p loose mean mg mb h₀) (hcs : cs.kind = .function) (hdp : dp + 14 < recursionLimit) (hun : un + 200 < cLine)
    (hoff : LxOff [(x, instObj 690 dx), (dx, emptyDict)] (pre ++ post)) (hside : dx < x ∧ (tx l).length ≤ 1000)
    (hret : ∀ (f df q ms0 cq : Nat) (y : LexT) z tp h' tk', dx < x → x < df → df < f → f < q → q < ms0 → y.more = [] → LxOff [(x, instObj 690 dx), (dx, lexObj w y f q (.ref ms0) false), (f, instObj 569 df), (df, sioObj w z l 0 tp), (q, listOf #[] cq), (ms0, methodObj (.ref 666) (.ref x))] (pre ++ post) →
      Fr h₀ L h' m → News h₀ L h' (pre ++ ([(x, instObj 690 dx), (dx, lexObj w y f q (.ref ms0) false), (f, instObj 569 df), (df, sioObj w z l 0 tp), (q, listOf #[] cq), (ms0, methodObj (.ref 666) (.ref x))] ++ post)) → Q .none { s with heap := h', toks := tk' }) :
    codeAny (model prog w) (ktrTop dp un gd cn cs L a ccd cl outer) (.call (.ref 587) ⟨[.ref x, .str (tx l) tl], []⟩) (LxR Q E) s := by
  obtain ⟨h1, hT⟩ := hside
  k_dflt ktr_enter
  k_steps
  · intro lift
    (try dsimp only)
    refine' lx_use (lift [(x, instObj 690 dx), (dx, lexObj w ⟨_, _, _, _, _, _, _, []⟩ ?zfa ?zqa (.ref ?zma) false), (?zfa, instObj 569 ?zda), (?zda, sioObj w _ l 0 _), (?zqa, listOf #[] _), (?zma, methodObj (.ref 666) (.ref x))] _ ?n1a ?n2a) ?mma
    case n1a => tb_rel
    case n2a => tb_rel
    case mma =>
      intro LL
      exact hret _ _ _ _ _ _ _ _ _ _ h1 (by omega) (by omega) (by omega) (by omega) rfl LL.2 (by assumption) LL.1
theorem lexInit_bytes {prog : Program} {w : World} {p : Program} {loose : List Str} {mean : ExcName → Option Value} {mg mb : Str → Option Value}
    {dp un : Nat} {gd : Option (List Code)} {cn : Str} {cs : Scope} {a : Addr} {ccd : Value} {cl : List (Str × Addr)} {outer : List Env} {A₀ : Around} {base h₀ : Heap} {L : Addr} {m : Str → Option Value} {s : Shared} {Q E : Value → Shared → Prop}
    {x dx : Nat} {l : List Nat} {tl : Tok} {pre post : List (Addr × Obj)} {c : Nat}
    (B : Below A₀ base outer h₀) (F : Fr h₀ L s.heap m) (X : (hd.heap_39 w.params).In h₀) (N : News h₀ L s.heap (pre ++ ([(x, instObj 690 dx), (dx, emptyDict)] ++ post)))
    (Tp : Top p loose mean mg mb h₀) (hcs : cs.kind = .function) (hdp : dp + 14 < recursionLimit) (hun : un + 200 < cLine)
    (hoff : LxOff [(x, instObj 690 dx), (dx, emptyDict)] (pre ++ post)) (hside : dx < x ∧ (tx (c :: l)).length ≤ 1000 ∧ (∀ d ∈ c :: l, d < 128))
    (hret : ∀ (f df q ms0 cq : Nat) (y : LexT) z tp h' tk', dx < x → x < df → df < f → f < q → q < ms0 → y.more = [] → LxOff [(x, instObj 690 dx), (dx, lexObj w y f q (.ref ms0) false), (f, instObj 569 df), (df, sioObj w z (c :: l) 0 tp), (q, listOf #[] cq), (ms0, methodObj (.ref 666) (.ref x))] (pre ++ post) →
      Fr h₀ L h' m → News h₀ L h' (pre ++ ([(x, instObj 690 dx), (dx, lexObj w y f q (.ref ms0) false), (f, instObj 569 df), (df, sioObj w z (c :: l) 0 tp), (q, listOf #[] cq), (ms0, methodObj (.ref 666) (.ref x))] ++ post)) → Q .none { s with heap := h', toks := tk' }) :
    codeAny (model prog w) (ktrTop dp un gd cn cs L a ccd cl outer) (.call (.ref 587) ⟨[.ref x, .bytes (oct (c :: l)).toArray tl], []⟩) (LxR Q E) s := by
  obtain ⟨h1, hT, hasc⟩ := hside
  have hz : (c :: l).length ≤ 1000 := by rw [tx_len] at hT; exact hT
  k_dflt ktr_enter
  k_steps
  · intro lift
    (try dsimp only)
    refine' lx_use (lift [(x, instObj 690 dx), (dx, lexObj w ⟨_, _, _, _, _, _, _, []⟩ ?zfa ?zqa (.ref ?zma) false), (?zfa, instObj 569 ?zda), (?zda, sioObj w _ (c :: l) 0 _), (?zqa, listOf #[] _), (?zma, methodObj (.ref 666) (.ref x))] _ ?n1a ?n2a) ?mma
    case n1a => tb_rel
    case n2a => tb_rel
    case mma =>
      intro LL
      exact hret _ _ _ _ _ _ _ _ _ _ h1 (by omega) (by omega) (by omega) (by omega) rfl LL.2 (by assumption) LL.1
end
section
theorem reset28 : True := by
  w_top off
  trivial
/-! ### the lines (local) -/
local macro_rules | `(tactic| k_in) => `(tactic| first | with_reducible assumption | exact Frag.In.keeps (by with_reducible assumption) (Fr.keep (by with_reducible assumption)) | exact Frag.In.keeps (by with_reducible assumption) (Fr.keep (by k_asm)))
local macro_rules | `(tactic| k_room) => `(tactic| ktr_room)
/- entry into a def whose ledger is a part of the caller's -/
local macro_rules | `(tactic| ktr_enter) => `(tactic| (refine' code_lx ?k1 ?k2 ?k3 ?k4 ?kO ?k5 ?kA ?kF ?kK ?k6 ?k7 ?k8 ?k9 ?kB ?_ ?c2 ?c3 ?c4 ?c5; (case kA => exact rfl); (case kF => exact rfl); (case kK => first | exact rfl | assumption); (case k1 => k_asm); (case k2 => k_asm); (case k3 => k_asm); (case k4 => k_asm); (case kO => assumption); (case k5 => k_asm); (case k6 => k_is); (case k7 => k_is); (case k8 => k_room); (case k9 => first | exact BindsTo.of_eq rfl | exact binds_K (by k_in) rfl (by k_is) rfl rfl rfl | fail "k_enter: no rule for these arguments"); (case c5 => decide); (case kB => exact locs rfl); (case c2 => exact rfl); (case c3 => exact rfl); (case c4 => exact rfl); k_whole; intro g' L' h' FG' F' N' B' X' T' l1; (try k_lt l1); (try dsimp only); (try k_lift B'); (try k_fold)))
/- apartness -/
local macro_rules | `(tactic| ktr_rel) => `(tactic| first | assumption | ((try simp only [List.cons_append, List.nil_append, List.append_nil]); repeat (first | exact LxOff.nil | refine LxOff.cons (by k_all) ?_)))
/- a dict of six written entries and a tail -/
local macro_rules | `(tactic| k_get) => `(tactic| first
  | (refine' get6_hit ?hm ?h; (case hm => assumption); (case h => k_get))
  | (refine' get6_miss ?hm ?n1 ?n2 ?h; (case hm => assumption); (case n1 => decide +kernel); (case n2 => decide +kernel); (case h => k_get))
  | (refine' get6_is ?hm ?h ?h2; (case hm => assumption); (case h => k_get); (case h2 => (intro h9; exact absurd (h9.symm.trans (by k_get)) (by nofun)))))
local macro_rules | `(tactic| k_put) => `(tactic| (refine' put6 ?hm ?h; (case hm => assumption); (case h => k_put)))
local macro_rules | `(tactic| walk_at "setAttr ref") => `(tactic| (k_here; k_dflt ((refine' set_dict ?k1 ?k2 ?k3 ?k4 ?k5 ?k6 ?k7 ?k8 ?k9 ?k10 ?k11 ?k12 ?k13 ?_; (case k1 => k_asm); (case k2 => k_asm); (case k3 => k_asm); (case k4 => k_inst); (case k5 => exact rfl); (case k6 => k_is); (case k7 => k_is); (case k8 => k_is); (case k9 => k_is); (case k10 => k_get); (case k11 => k_put); (case k12 => k_upd); (case k13 => first | exact Nat.le_of_ble_eq_true rfl | (have h9 := MoreOk.len (by assumption); simp only [List.length_cons]; omega)); k_whole; intro h' F' N'; (try k_sweep)))))
local macro_rules | `(tactic| walk_at "call builtin:list.extend") => `(tactic| (k_here; (with_reducible show wpAny _ _ (call (Value.builtin _) [Value.ref _, Value.str _ _]) _ _ _); k_dflt (first
  | (refine' lx_extend0 ?hh ?F ?N ?D ?_; (case hh => exact rfl); (case F => k_asm); (case N => k_asm); (case D => k_mem); intro h' tk' F' N'; (try k_sweep))
  | (refine' lx_extend1 ?hh ?F ?N ?U ?_; (case hh => exact rfl); (case F => k_asm); (case N => k_asm); (case U => k_updF); intro h' tk' u' c' F' N'; (try dsimp only at N'); (try k_sweep)))))
local macro_rules | `(tactic| walk_at "call type:list") => `(tactic| (k_here; (with_reducible show wpAny _ _ (call (Value.type _) [Value.str _ _]) _ _ _); k_dflt (first
  | (refine' lx_list0 ?hh ?F ?N ?_; (case hh => exact rfl); (case F => k_asm); (case N => k_asm); intro p' h' tk' c' F' N' l1; (try k_lt l1); (try k_sweep))
  | (refine' lx_list1 ?hh ?F ?N ?_; (case hh => exact rfl); (case F => k_asm); (case N => k_asm); intro p' h' tk' u' c' F' N' l1; (try k_lt l1); (try k_sweep)))))
local macro_rules | `(tactic| tb_rel) => `(tactic| (refine' cb_drop ?cN ?cS; (case cN => assumption); (case cS => (repeat (first | exact List.forall_mem_nil _ | refine List.forall_mem_cons.mpr ⟨by k_mem, ?_⟩)))))
/-! ### RandomLexer(..) -/
theorem lexNew_str {prog : Program} {w : World} {p : Program} {loose : List Str} {mean : ExcName → Option Value} {mg mb : Str → Option Value}
    {dp un : Nat} {gd : Option (List Code)} {cn : Str} {cs : Scope} {a : Addr} {ccd : Value} {cl : List (Str × Addr)} {outer : List Env} {A₀ : Around} {base h₀ : Heap} {L : Addr} {m : Str → Option Value} {s : Shared} {Q E : Value → Shared → Prop}
    {l : List Nat} {tl : Tok} {rest : List (Addr × Obj)}
    (B : Below A₀ base outer h₀) (F : Fr h₀ L s.heap m) (X : (hd.heap_39 w.params).In h₀) (N : News h₀ L s.heap rest)
    (Tp : Top p loose mean mg mb h₀) (hcs : cs.kind = .function) (hdp : dp + 16 < recursionLimit) (hun : un + 210 < cLine) (hside : (tx l).length ≤ 1000)
    (hret : ∀ (x dx f df q ms0 cq : Nat) (y : LexT) z tp h' tk', dx < x → x < df → df < f → f < q → q < ms0 → y.more = [] → LxOff [(x, instObj 690 dx), (dx, lexObj w y f q (.ref ms0) false), (f, instObj 569 df), (df, sioObj w z l 0 tp), (q, listOf #[] cq), (ms0, methodObj (.ref 666) (.ref x))] rest →
      Fr h₀ L h' m → News h₀ L h' ([(x, instObj 690 dx), (dx, lexObj w y f q (.ref ms0) false), (f, instObj 569 df), (df, sioObj w z l 0 tp), (q, listOf #[] cq), (ms0, methodObj (.ref 666) (.ref x))] ++ rest) → Q (.ref x) { s with heap := h', toks := tk' }) :
    wpAny (model prog w) (ktrTop dp un gd cn cs L a ccd cl outer) (call (.ref 690) [.str (tx l) tl]) Q E s := by
  refine lx_call (make_K (fI := 587) F N (X.keeps F.keep) (by k_is) (by k_is) (by k_is) fun x dx h' F' N' l1 l2 => ?_)
  rw [under_make]
  refine codeAny_mono (lexInit_str (Q := fun v s' => v = .none ∧ LxR Q E (.ok (.ret (.ref x))) s') (E := E) (pre := []) (post := rest) B F' X N' Tp hcs (by omega) (by omega) ?_ ⟨l2, hside⟩ fun f df q ms0 cq y z tp h2 tk2 h3 h4 h5 h6 h7 h8 O F2 N2 => ⟨rfl, hret x dx f df q ms0 cq y z tp h2 tk2 h3 h4 h5 h6 h7 h8 O F2 N2⟩) fun r s' hr => ?_
  · refine .cons (fun q hq => Nat.ne_of_gt (Nat.lt_trans (l1 q hq) l2)) (.cons (fun q hq => Nat.ne_of_gt (l1 q hq)) .nil)
  · cases r with
    | error e => exact hr
    | ok fl => cases fl <;> exact hr
theorem lexNew_bytes {prog : Program} {w : World} {p : Program} {loose : List Str} {mean : ExcName → Option Value} {mg mb : Str → Option Value}
    {dp un : Nat} {gd : Option (List Code)} {cn : Str} {cs : Scope} {a : Addr} {ccd : Value} {cl : List (Str × Addr)} {outer : List Env} {A₀ : Around} {base h₀ : Heap} {L : Addr} {m : Str → Option Value} {s : Shared} {Q E : Value → Shared → Prop}
    {l : List Nat} {tl : Tok} {rest : List (Addr × Obj)} {c : Nat}
    (B : Below A₀ base outer h₀) (F : Fr h₀ L s.heap m) (X : (hd.heap_39 w.params).In h₀) (N : News h₀ L s.heap rest)
    (Tp : Top p loose mean mg mb h₀) (hcs : cs.kind = .function) (hdp : dp + 16 < recursionLimit) (hun : un + 210 < cLine) (hside : (tx (c :: l)).length ≤ 1000 ∧ (∀ d ∈ c :: l, d < 128))
    (hret : ∀ (x dx f df q ms0 cq : Nat) (y : LexT) z tp h' tk', dx < x → x < df → df < f → f < q → q < ms0 → y.more = [] → LxOff [(x, instObj 690 dx), (dx, lexObj w y f q (.ref ms0) false), (f, instObj 569 df), (df, sioObj w z (c :: l) 0 tp), (q, listOf #[] cq), (ms0, methodObj (.ref 666) (.ref x))] rest →
      Fr h₀ L h' m → News h₀ L h' ([(x, instObj 690 dx), (dx, lexObj w y f q (.ref ms0) false), (f, instObj 569 df), (df, sioObj w z (c :: l) 0 tp), (q, listOf #[] cq), (ms0, methodObj (.ref 666) (.ref x))] ++ rest) → Q (.ref x) { s with heap := h', toks := tk' }) :
    wpAny (model prog w) (ktrTop dp un gd cn cs L a ccd cl outer) (call (.ref 690) [.bytes (oct (c :: l)).toArray tl]) Q E s := by
  refine lx_call (make_K (fI := 587) F N (X.keeps F.keep) (by k_is) (by k_is) (by k_is) fun x dx h' F' N' l1 l2 => ?_)
  rw [under_make]
  refine codeAny_mono (lexInit_bytes (Q := fun v s' => v = .none ∧ LxR Q E (.ok (.ret (.ref x))) s') (E := E) (pre := []) (post := rest) B F' X N' Tp hcs (by omega) (by omega) ?_ ⟨l2, hside.1, hside.2⟩ fun f df q ms0 cq y z tp h2 tk2 h3 h4 h5 h6 h7 h8 O F2 N2 => ⟨rfl, hret x dx f df q ms0 cq y z tp h2 tk2 h3 h4 h5 h6 h7 h8 O F2 N2⟩) fun r s' hr => ?_
  · refine .cons (fun q hq => Nat.ne_of_gt (Nat.lt_trans (l1 q hq) l2)) (.cons (fun q hq => Nat.ne_of_gt (l1 q hq)) .nil)
  · cases r with
    | error e => exact hr
    | ok fl => cases fl <;> exact hr
end
section
theorem reset29 : True := by
  w_top off
  trivial
/-! ### the lines (local) -/
local macro_rules | `(tactic| k_in) => `(tactic| first | with_reducible assumption | exact Frag.In.keeps (by with_reducible assumption) (Fr.keep (by with_reducible assumption)) | exact Frag.In.keeps (by with_reducible assumption) (Fr.keep (by k_asm)))
local macro_rules | `(tactic| k_room) => `(tactic| ktr_room)
/- entry into a def whose ledger is a part of the caller's -/
local macro_rules | `(tactic| ktr_enter) => `(tactic| (refine' code_lx ?k1 ?k2 ?k3 ?k4 ?kO ?k5 ?kA ?kF ?kK ?k6 ?k7 ?k8 ?k9 ?kB ?_ ?c2 ?c3 ?c4 ?c5; (case kA => exact rfl); (case kF => exact rfl); (case kK => first | exact rfl | assumption); (case k1 => k_asm); (case k2 => k_asm); (case k3 => k_asm); (case k4 => k_asm); (case kO => assumption); (case k5 => k_asm); (case k6 => k_is); (case k7 => k_is); (case k8 => k_room); (case k9 => first | exact BindsTo.of_eq rfl | exact binds_K (by k_in) rfl (by k_is) rfl rfl rfl | fail "k_enter: no rule for these arguments"); (case c5 => decide); (case kB => exact locs rfl); (case c2 => exact rfl); (case c3 => exact rfl); (case c4 => exact rfl); k_whole; intro g' L' h' FG' F' N' B' X' T' l1; (try k_lt l1); (try dsimp only); (try k_lift B'); (try k_fold)))
/- apartness -/
local macro_rules | `(tactic| ktr_rel) => `(tactic| first | assumption | ((try simp only [List.cons_append, List.nil_append, List.append_nil]); repeat (first | exact LxOff.nil | refine LxOff.cons (by k_all) ?_)))
/- a dict of six written entries and a tail -/
local macro_rules | `(tactic| k_get) => `(tactic| first
  | (refine' get6_hit ?hm ?h; (case hm => assumption); (case h => k_get))
  | (refine' get6_miss ?hm ?n1 ?n2 ?h; (case hm => assumption); (case n1 => decide +kernel); (case n2 => decide +kernel); (case h => k_get))
  | (refine' get6_is ?hm ?h ?h2; (case hm => assumption); (case h => k_get); (case h2 => (intro h9; exact absurd (h9.symm.trans (by k_get)) (by nofun)))))
local macro_rules | `(tactic| k_put) => `(tactic| (refine' put6 ?hm ?h; (case hm => assumption); (case h => k_put)))
local macro_rules | `(tactic| walk_at "setAttr ref") => `(tactic| (k_here; k_dflt ((refine' set_dict ?k1 ?k2 ?k3 ?k4 ?k5 ?k6 ?k7 ?k8 ?k9 ?k10 ?k11 ?k12 ?k13 ?_; (case k1 => k_asm); (case k2 => k_asm); (case k3 => k_asm); (case k4 => k_inst); (case k5 => exact rfl); (case k6 => k_is); (case k7 => k_is); (case k8 => k_is); (case k9 => k_is); (case k10 => k_get); (case k11 => k_put); (case k12 => k_upd); (case k13 => first | exact Nat.le_of_ble_eq_true rfl | (have h9 := MoreOk.len (by assumption); simp only [List.length_cons]; omega)); k_whole; intro h' F' N'; (try k_sweep)))))
local macro_rules | `(tactic| walk_at "call builtin:list.extend") => `(tactic| (k_here; (with_reducible show wpAny _ _ (call (Value.builtin _) [Value.ref _, Value.str _ _]) _ _ _); k_dflt (first
  | (refine' lx_extend0 ?hh ?F ?N ?D ?_; (case hh => exact rfl); (case F => k_asm); (case N => k_asm); (case D => k_mem); intro h' tk' F' N'; (try k_sweep))
  | (refine' lx_extend1 ?hh ?F ?N ?U ?_; (case hh => exact rfl); (case F => k_asm); (case N => k_asm); (case U => k_updF); intro h' tk' u' c' F' N'; (try dsimp only at N'); (try k_sweep)))))
local macro_rules | `(tactic| walk_at "call type:list") => `(tactic| (k_here; (with_reducible show wpAny _ _ (call (Value.type _) [Value.str _ _]) _ _ _); k_dflt (first
  | (refine' lx_list0 ?hh ?F ?N ?_; (case hh => exact rfl); (case F => k_asm); (case N => k_asm); intro p' h' tk' c' F' N' l1; (try k_lt l1); (try k_sweep))
  | (refine' lx_list1 ?hh ?F ?N ?_; (case hh => exact rfl); (case F => k_asm); (case N => k_asm); intro p' h' tk' u' c' F' N' l1; (try k_lt l1); (try k_sweep)))))
local macro_rules | `(tactic| tb_rel) => `(tactic| (refine' cb_drop ?cN ?cS; (case cN => assumption); (case cS => (repeat (first | exact List.forall_mem_nil _ | refine List.forall_mem_cons.mpr ⟨by k_mem, ?_⟩)))))
/-! ### the law's helpers -/
theorem numC {prog : Program} {w : World} {p : Program} {loose : List Str} {mean : ExcName → Option Value} {mg mb : Str → Option Value}
    {dp un : Nat} {gd : Option (List Code)} {cn : Str} {cs : Scope} {a : Addr} {ccd : Value} {cl : List (Str × Addr)} {outer : List Env} {A₀ : Around} {base h₀ : Heap} {L : Addr} {m : Str → Option Value} {s : Shared} {Q E : Value → Shared → Prop}
    {sl : Nat} {vs : List Value} {ns : List Int} {pl : Int} {tp : Tok} {pre post : List (Addr × Obj)}
    (B : Below A₀ base outer h₀) (F : Fr h₀ L s.heap m) (X : (hd.heap_39 w.params).In h₀) (N : News h₀ L s.heap (pre ++ ([] ++ post)))
    (Tp : Top p loose mean mg mb h₀) (hcs : cs.kind = .function) (hdp : dp + 4 < recursionLimit) (hun : un + 60 < cLine)
    (hoff : LxOff [] (pre ++ post)) (hside : h₀.IsList sl vs.toArray ∧ IntsAre vs ns ∧ ns.length ≤ 63 ∧ 0 ≤ pl ∧ pl ≤ 100)
    (hret : ∀ r t h' tk', Fr h₀ L h' m → News h₀ L h' (pre ++ ([] ++ post)) → Q (.int r t) { s with heap := h', toks := tk' }) :
    wpAny (model prog w) (ktrTop dp un gd cn cs L a ccd cl outer) (call (.ref 700) [.ref sl, .int pl tp]) Q E s := by
  refine lx_call ?_
  obtain ⟨hS, hI, hlen, hp0, hp1⟩ := hside
  k_dflt ktr_enter
  have hS' := Fr.lst (h₀ := h₀) (by assumption) hS
  k_steps
  all_goals
    intro lift
    (try dsimp only)
    refine' lx_use (lift [] _ ?n1a ?n2a) ?mma
    case n1a => tb_rel
    case n2a => tb_rel
    case mma =>
      intro LL
      exact hret _ _ _ _ (by assumption) LL.1
end
section
theorem reset30 : True := by
  w_top off
  trivial
/-! ### the lines (local) -/
local macro_rules | `(tactic| k_in) => `(tactic| first | with_reducible assumption | exact Frag.In.keeps (by with_reducible assumption) (Fr.keep (by with_reducible assumption)) | exact Frag.In.keeps (by with_reducible assumption) (Fr.keep (by k_asm)))
local macro_rules | `(tactic| k_room) => `(tactic| ktr_room)
/- entry into a def whose ledger is a part of the caller's -/
local macro_rules | `(tactic| ktr_enter) => `(tactic| (refine' code_lx ?k1 ?k2 ?k3 ?k4 ?kO ?k5 ?kA ?kF ?kK ?k6 ?k7 ?k8 ?k9 ?kB ?_ ?c2 ?c3 ?c4 ?c5; (case kA => exact rfl); (case kF => exact rfl); (case kK => first | exact rfl | assumption); (case k1 => k_asm); (case k2 => k_asm); (case k3 => k_asm); (case k4 => k_asm); (case kO => assumption); (case k5 => k_asm); (case k6 => k_is); (case k7 => k_is); (case k8 => k_room); (case k9 => first | exact BindsTo.of_eq rfl | exact binds_K (by k_in) rfl (by k_is) rfl rfl rfl | fail "k_enter: no rule for these arguments"); (case c5 => decide); (case kB => exact locs rfl); (case c2 => exact rfl); (case c3 => exact rfl); (case c4 => exact rfl); k_whole; intro g' L' h' FG' F' N' B' X' T' l1; (try k_lt l1); (try dsimp only); (try k_lift B'); (try k_fold)))
/- apartness -/
local macro_rules | `(tactic| ktr_rel) => `(tactic| first | assumption | ((try simp only [List.cons_append, List.nil_append, List.append_nil]); repeat (first | exact LxOff.nil | refine LxOff.cons (by k_all) ?_)))
/- a dict of six written entries and a tail -/
local macro_rules | `(tactic| k_get) => `(tactic| first
  | (refine' get6_hit ?hm ?h; (case hm => assumption); (case h => k_get))
  | (refine' get6_miss ?hm ?n1 ?n2 ?h; (case hm => assumption); (case n1 => decide +kernel); (case n2 => decide +kernel); (case h => k_get))
  | (refine' get6_is ?hm ?h ?h2; (case hm => assumption); (case h => k_get); (case h2 => (intro h9; exact absurd (h9.symm.trans (by k_get)) (by nofun)))))
local macro_rules | `(tactic| k_put) => `(tactic| (refine' put6 ?hm ?h; (case hm => assumption); (case h => k_put)))
local macro_rules | `(tactic| walk_at "setAttr ref") => `(tactic| (k_here; k_dflt ((refine' set_dict ?k1 ?k2 ?k3 ?k4 ?k5 ?k6 ?k7 ?k8 ?k9 ?k10 ?k11 ?k12 ?k13 ?_; (case k1 => k_asm); (case k2 => k_asm); (case k3 => k_asm); (case k4 => k_inst); (case k5 => exact rfl); (case k6 => k_is); (case k7 => k_is); (case k8 => k_is); (case k9 => k_is); (case k10 => k_get); (case k11 => k_put); (case k12 => k_upd); (case k13 => first | exact Nat.le_of_ble_eq_true rfl | (have h9 := MoreOk.len (by assumption); simp only [List.length_cons]; omega)); k_whole; intro h' F' N'; (try k_sweep)))))
local macro_rules | `(tactic| walk_at "call builtin:list.extend") => `(tactic| (k_here; (with_reducible show wpAny _ _ (call (Value.builtin _) [Value.ref _, Value.str _ _]) _ _ _); k_dflt (first
  | (refine' lx_extend0 ?hh ?F ?N ?D ?_; (case hh => exact rfl); (case F => k_asm); (case N => k_asm); (case D => k_mem); intro h' tk' F' N'; (try k_sweep))
  | (refine' lx_extend1 ?hh ?F ?N ?U ?_; (case hh => exact rfl); (case F => k_asm); (case N => k_asm); (case U => k_updF); intro h' tk' u' c' F' N'; (try dsimp only at N'); (try k_sweep)))))
local macro_rules | `(tactic| walk_at "call type:list") => `(tactic| (k_here; (with_reducible show wpAny _ _ (call (Value.type _) [Value.str _ _]) _ _ _); k_dflt (first
  | (refine' lx_list0 ?hh ?F ?N ?_; (case hh => exact rfl); (case F => k_asm); (case N => k_asm); intro p' h' tk' c' F' N' l1; (try k_lt l1); (try k_sweep))
  | (refine' lx_list1 ?hh ?F ?N ?_; (case hh => exact rfl); (case F => k_asm); (case N => k_asm); intro p' h' tk' u' c' F' N' l1; (try k_lt l1); (try k_sweep)))))
local macro_rules | `(tactic| tb_rel) => `(tactic| (refine' cb_drop ?cN ?cS; (case cN => assumption); (case cS => (repeat (first | exact List.forall_mem_nil _ | refine List.forall_mem_cons.mpr ⟨by k_mem, ?_⟩)))))
/-! ### a comprehension of texts of one sign -/
def LxEl (news : List (Addr × Obj)) (pr : Nat → Prop) (y : Value) (news' : List (Addr × Obj)) : Prop := news' = news ∧ ∃ c t, y = .str (tx [c]) t ∧ pr c
section
variable {prog : Program} {w : World} {A : Around} {h₀ : Heap} {L : Addr} {m : Str → Option Value} {env : Env} {elt : PySem.Expr} {x : Str} {scope : Scope} {cl : List (Str × Addr)} {s : Shared} {S : List (Addr × Obj) → Prop} {P : Nat → Value → Prop} {Fin : List Value → List (Addr × Obj) → Prop} {news : List (Addr × Obj)}
theorem lx_comp {n : Nat} {a : Int} (pr : Nat → Prop)
    (turn : ∀ k t I oI C oC D m₂ (qs : List (Nat × Tok)) h tk (E' : Value → Shared → Prop), a ≤ k → k < a + (n : Int) → LCg.NsObj oC m₂ → m₂ x = some (.int k t) → Fr h₀ L h m → News h₀ L h ((I, oI) :: (C, oC) :: (D, LCg.lst (chs qs)) :: news) → LCg.Off3 I C D news → ((@Ne Nat I C) ∧ (@Ne Nat I D) ∧ (@Ne Nat C D)) →
      wpAny (model prog w) A (eval elt (compEnvC scope cl C env)) (LCg.CompEnd h₀ L m { s with heap := h, toks := tk } I oI C oC D (LCg.lst (chs qs)) S (LxEl news pr)) E' { s with heap := h, toks := tk })
    (fin : ∀ qs : List (Nat × Tok), qs.length = n → (∀ c ∈ qs.map (·.1), pr c) → Fin (chs qs) news) : LCg.CompRest prog w A h₀ L m env elt x scope cl s S (fun i v => ∃ t, v = .int (a + (i : Int)) t) Fin n 0 [] news := by
  have key : ∀ (j i : Nat) (qs : List (Nat × Tok)), i + j = n → qs.length = i → (∀ c ∈ qs.map (·.1), pr c) → LCg.CompRest prog w A h₀ L m env elt x scope cl s S (fun i v => ∃ t, v = .int (a + (i : Int)) t) Fin j i (chs qs) news := by
    intro j
    induction j with
    | zero => exact fun i qs hi hl hq => LCg.CompRest.zero (fin qs (by omega) hq)
    | succ j ih =>
      intro i qs hi hl hq
      refine LCg.CompRest.succ ?_
      intro v I oI C oC D m₂ h tk E' hv hC hx F N off ne
      obtain ⟨t, hv'⟩ := hv
      rw [hv'] at hx
      refine wpAny_mono (turn (a + (i : Int)) t I oI C oC D m₂ qs h tk E' (by omega) (by omega) hC hx F N off ne) (fun y s₂ hq2 => ?_) fun _ _ e => e
      obtain ⟨h', tk', nw, e, F', N', off', hS, hn, c, t', hy', hp⟩ := hq2
      rw [hn] at N' off' hS
      refine ⟨h', tk', news, e, F', N', off', hS, ?_⟩
      rw [hy']
      have := ih (i + 1) (qs ++ [(c, t')]) (by omega) (by rw [List.length_append, hl]; rfl) (fun d hd => by
        rw [List.map_append] at hd
        rcases List.mem_append.mp hd with hd | hd
        · exact hq d hd
        · rw [List.mem_singleton.mp hd]; exact hp)
      rw [show chs (qs ++ [(c, t')]) = chs qs ++ [.str (tx [c]) t'] from by simp [chs]] at this
      exact this
  exact key n 0 [] (by omega) rfl (fun _ h => nomatch h)
end
def PoolL (c : Nat) : Prop := c ∈ [97, 98, 90, 121, 81]
def PoolF (c : Nat) : Prop := c ∈ [48, 49, 50, 51, 52, 53, 54, 55, 56, 57]
theorem item_in {x : Str} {pool : List Nat} {i : Int} (hx : x = tx pool) (h0 : 0 ≤ i) (h1 : i < (pool.length : Int)) : ∃ c, Txt.item x i = tx [c] ∧ c ∈ pool := by
  refine ⟨(Txt.charAt x i).getD 0, rfl, ?_⟩
  subst hx
  have hs : seqIndex? i (tx pool).length = some i.toNat := by
    unfold seqIndex?
    rw [tx_len]
    have h2 : ¬ i < 0 := by omega
    simp [h2, h0]
    omega
  unfold Txt.charAt
  rw [hs, Option.bind_some]
  have hi : i.toNat < pool.length := by omega
  have : (tx pool).cps[i.toNat]? = some pool[i.toNat] := by simp [hi]
  rw [this]
  exact List.getElem_mem hi
theorem item_L {i : Int} {t : Tok} {news : List (Addr × Obj)} (h0 : 0 ≤ i) (h1 : i < 5) : LxEl news PoolL (.str (Txt.item (Str.ofString "abZyQ") i) t) news := by
  obtain ⟨c, e, hc⟩ := item_in (x := Str.ofString "abZyQ") (pool := [97, 98, 90, 121, 81]) (by decide +kernel) h0 (by simpa using h1)
  rw [e]
  exact ⟨rfl, c, t, rfl, hc⟩
theorem item_F {i : Int} {t : Tok} {news : List (Addr × Obj)} (h0 : 0 ≤ i) (h1 : i < 10) : LxEl news PoolF (.str (Txt.item (Str.ofString "0123456789") i) t) news := by
  obtain ⟨c, e, hc⟩ := item_in (x := Str.ofString "0123456789") (pool := [48, 49, 50, 51, 52, 53, 54, 55, 56, 57]) (by decide +kernel) h0 (by simpa using h1)
  rw [e]
  exact ⟨rfl, c, t, rfl, hc⟩
def PoolO (c : Nat) : Prop := c ∈ [32, 10, 45, 46, 95, 9, 126, 34, 0, 127]
def Sign (c : Nat) : Prop := PoolL c ∨ PoolF c ∨ PoolO c
theorem item_O {i : Int} {t : Tok} {news : List (Addr × Obj)} (h0 : 0 ≤ i) (h1 : i < 10) : LxEl news PoolO (.str (List.getD [Str.ofString " ", Str.ofString "\n", Str.ofString "-", Str.ofString ".", Str.ofString "_", Str.ofString "\t", Str.ofString "~", Str.ofString "\"", Str.ofString "\x00", Str.ofString "\x7f"] i.toNat Str.empty) t) news := by
  obtain ⟨k, rfl⟩ : ∃ k : Nat, i = (k : Int) := ⟨i.toNat, by omega⟩
  have hk : k < 10 := by omega
  have key : ∀ k, k < 10 → ∃ c ∈ [32, 10, 45, 46, 95, 9, 126, 34, 0, 127], List.getD [Str.ofString " ", Str.ofString "\n", Str.ofString "-", Str.ofString ".", Str.ofString "_", Str.ofString "\t", Str.ofString "~", Str.ofString "\"", Str.ofString "\x00", Str.ofString "\x7f"] k Str.empty = tx [c] := by decide +kernel
  obtain ⟨c, hc, e⟩ := key k hk
  rw [Int.toNat_natCast, e]
  exact ⟨rfl, c, t, rfl, hc⟩
end
section
theorem reset31 : True := by
  w_top off
  trivial
/-! ### the lines (local) -/
local macro_rules | `(tactic| k_in) => `(tactic| first | with_reducible assumption | exact Frag.In.keeps (by with_reducible assumption) (Fr.keep (by with_reducible assumption)) | exact Frag.In.keeps (by with_reducible assumption) (Fr.keep (by k_asm)))
local macro_rules | `(tactic| k_room) => `(tactic| ktr_room)
/- entry into a def whose ledger is a part of the caller's -/
local macro_rules | `(tactic| ktr_enter) => `(tactic| (refine' code_lx ?k1 ?k2 ?k3 ?k4 ?kO ?k5 ?kA ?kF ?kK ?k6 ?k7 ?k8 ?k9 ?kB ?_ ?c2 ?c3 ?c4 ?c5; (case kA => exact rfl); (case kF => exact rfl); (case kK => first | exact rfl | assumption); (case k1 => k_asm); (case k2 => k_asm); (case k3 => k_asm); (case k4 => k_asm); (case kO => assumption); (case k5 => k_asm); (case k6 => k_is); (case k7 => k_is); (case k8 => k_room); (case k9 => first | exact BindsTo.of_eq rfl | exact binds_K (by k_in) rfl (by k_is) rfl rfl rfl | fail "k_enter: no rule for these arguments"); (case c5 => decide); (case kB => exact locs rfl); (case c2 => exact rfl); (case c3 => exact rfl); (case c4 => exact rfl); k_whole; intro g' L' h' FG' F' N' B' X' T' l1; (try k_lt l1); (try dsimp only); (try k_lift B'); (try k_fold)))
/- apartness -/
local macro_rules | `(tactic| ktr_rel) => `(tactic| first | assumption | ((try simp only [List.cons_append, List.nil_append, List.append_nil]); repeat (first | exact LxOff.nil | refine LxOff.cons (by k_all) ?_)))
/- a dict of six written entries and a tail -/
local macro_rules | `(tactic| k_get) => `(tactic| first
  | (refine' get6_hit ?hm ?h; (case hm => assumption); (case h => k_get))
  | (refine' get6_miss ?hm ?n1 ?n2 ?h; (case hm => assumption); (case n1 => decide +kernel); (case n2 => decide +kernel); (case h => k_get))
  | (refine' get6_is ?hm ?h ?h2; (case hm => assumption); (case h => k_get); (case h2 => (intro h9; exact absurd (h9.symm.trans (by k_get)) (by nofun)))))
local macro_rules | `(tactic| k_put) => `(tactic| (refine' put6 ?hm ?h; (case hm => assumption); (case h => k_put)))
local macro_rules | `(tactic| walk_at "setAttr ref") => `(tactic| (k_here; k_dflt ((refine' set_dict ?k1 ?k2 ?k3 ?k4 ?k5 ?k6 ?k7 ?k8 ?k9 ?k10 ?k11 ?k12 ?k13 ?_; (case k1 => k_asm); (case k2 => k_asm); (case k3 => k_asm); (case k4 => k_inst); (case k5 => exact rfl); (case k6 => k_is); (case k7 => k_is); (case k8 => k_is); (case k9 => k_is); (case k10 => k_get); (case k11 => k_put); (case k12 => k_upd); (case k13 => first | exact Nat.le_of_ble_eq_true rfl | (have h9 := MoreOk.len (by assumption); simp only [List.length_cons]; omega)); k_whole; intro h' F' N'; (try k_sweep)))))
local macro_rules | `(tactic| walk_at "call builtin:list.extend") => `(tactic| (k_here; (with_reducible show wpAny _ _ (call (Value.builtin _) [Value.ref _, Value.str _ _]) _ _ _); k_dflt (first
  | (refine' lx_extend0 ?hh ?F ?N ?D ?_; (case hh => exact rfl); (case F => k_asm); (case N => k_asm); (case D => k_mem); intro h' tk' F' N'; (try k_sweep))
  | (refine' lx_extend1 ?hh ?F ?N ?U ?_; (case hh => exact rfl); (case F => k_asm); (case N => k_asm); (case U => k_updF); intro h' tk' u' c' F' N'; (try dsimp only at N'); (try k_sweep)))))
local macro_rules | `(tactic| walk_at "call type:list") => `(tactic| (k_here; (with_reducible show wpAny _ _ (call (Value.type _) [Value.str _ _]) _ _ _); k_dflt (first
  | (refine' lx_list0 ?hh ?F ?N ?_; (case hh => exact rfl); (case F => k_asm); (case N => k_asm); intro p' h' tk' c' F' N' l1; (try k_lt l1); (try k_sweep))
  | (refine' lx_list1 ?hh ?F ?N ?_; (case hh => exact rfl); (case F => k_asm); (case N => k_asm); intro p' h' tk' u' c' F' N' l1; (try k_lt l1); (try k_sweep)))))
local macro_rules | `(tactic| tb_rel) => `(tactic| (refine' cb_drop ?cN ?cS; (case cN => assumption); (case cS => (repeat (first | exact List.forall_mem_nil _ | refine List.forall_mem_cons.mpr ⟨by k_mem, ?_⟩)))))
local macro_rules | `(tactic| walk_at "CompSrc") => `(tactic| (k_here; (try k_fmods); k_dflt (refine LCg.CompSrc.range (by rfl) (by k_asm) (by k_asm) (by assumption) (by first | exact small_one (by kcf_bnd) (by kcf_bnd) (by kcf_bnd) (by kcf_bnd) | decide) (by first | exact rangeSize_nat _ _ | rfl) (by first | exact Nat.le_of_ble_eq_true rfl | (rw [PySem.sizeLine_eq]; omega)) ?_; intro g'; (refine' lx_comp PoolL (fun k' t' I' oI' C' oC' D' m' ys' h' tk' E' hlo' hhi' hC' hx' F' N' off' ne' => ?_) ?_); (all_goals (try (simp only [LCg.Off3, and_true] at off'))); (all_goals (try k_fold)))))
local macro_rules | `(tactic| walk_at "CompEnd") => `(tactic| (refine' LCg.CompEnd.intro ?zA ?zB ?zN ?zC ?zD ?zE ?zF; (case zF => exact item_L (fmod_lo _ (n := 5) (by decide)) (fmod_hi _ (n := 5) (by decide))); (case zA => assumption); (case zB => assumption); (case zC => kcf_all); (case zD => first | assumption | (simp only [LCg.Off3, and_true]; assumption)); (case zE => trivial)))
local macro_rules | `(tactic| walk_at "call builtin:str.join") => `(tactic| (k_here; (with_reducible show wpAny _ _ (call (Value.builtin _) [Value.str _ _, Value.ref _]) _ _ _); k_dflt (refine' lx_join ?N ?D ?l ?_; (case N => k_asm); (case D => k_mem); (case l => first | assumption | omega)); intro t' k' hl'))
local macro_rules | `(tactic| k_enter) => `(tactic| (refine' code_defC ?k1 ?k2 ?k3 ?k4 ?k5 ?kA ?kF ?kK ?k6 ?k7 ?k8 ?k9 ?kB ?kD ?_ ?c2 ?c3 ?c4; (case kA => exact rfl); (case kF => exact rfl); (case kK => first | exact rfl | assumption); (case k1 => k_asm); (case k2 => k_asm); (case k3 => k_asm); (case k4 => k_asm); (case k5 => k_asm); (case k6 => k_is); (case k7 => k_is); (case k8 => k_room); (case k9 => first | exact BindsTo.of_eq rfl | exact binds_K (by k_in) rfl (by k_is) rfl rfl rfl); (case kB => exact rfl); (case kD => decide +kernel); (case c2 => exact rfl); (case c3 => exact rfl); (case c4 => exact rfl); k_whole; intro g' L' h' tk' cells' FG' F' N' Y' B' X' T' l1; (try k_lt l1); k_cells Y'; (try simp only [List.cons_append, List.nil_append] at N'); (try dsimp only); (try k_lift B'); (try k_fold)))
theorem runL {prog : Program} {w : World} {p : Program} {loose : List Str} {mean : ExcName → Option Value} {mg mb : Str → Option Value}
    {dp un : Nat} {gd : Option (List Code)} {cn : Str} {cs : Scope} {a : Addr} {ccd : Value} {cl : List (Str × Addr)} {outer : List Env} {A₀ : Around} {base h₀ : Heap} {L : Addr} {m : Str → Option Value} {s : Shared} {Q E : Value → Shared → Prop}
    {k sz : Int} {tp tk0 ts : Tok} {rest : List (Addr × Obj)}
    (B : Below A₀ base outer h₀) (F : Fr h₀ L s.heap m) (X : (hd.heap_39 w.params).In h₀) (N : News h₀ L s.heap rest)
    (Tp : Top p loose mean mg mb h₀) (hcs : cs.kind = .function) (hdp : dp + 6 < recursionLimit) (hun : un + 80 < cLine)
    (hs0 : 0 ≤ sz) (hs1 : sz ≤ 8)
    (hret : ∀ (l : List Nat) t h' tk', (∀ c ∈ l, PoolL c) → (l.length : Int) = sz → (tx l).length ≤ 8 → Fr h₀ L h' m → News h₀ L h' rest → Q (.str (tx l) t) { s with heap := h', toks := tk' }) :
    wpAny (model prog w) (ktrTop dp un gd cn cs L a ccd cl outer) (call (.ref 705) [.str (Str.ofString "abZyQ") tp, .int k tk0, .int sz ts]) Q E s := by
  k_steps
  · rename News h₀ _ _ _ => kN
    exact hret _ _ _ _ (by assumption) (by rw [List.length_map]; omega) (by rw [tx_len, List.length_map]; omega) (by assumption) fun p hp => kN p (.tail _ (.tail _ (.tail _ hp)))
local macro_rules | `(tactic| walk_at "CompSrc") => `(tactic| (k_here; (try k_fmods); k_dflt (refine LCg.CompSrc.range (by rfl) (by k_asm) (by k_asm) (by assumption) (by first | exact small_one (by kcf_bnd) (by kcf_bnd) (by kcf_bnd) (by kcf_bnd) | decide) (by first | exact rangeSize_nat _ _ | rfl) (by first | exact Nat.le_of_ble_eq_true rfl | (rw [PySem.sizeLine_eq]; omega)) ?_; intro g'; (refine' lx_comp PoolF (fun k' t' I' oI' C' oC' D' m' ys' h' tk' E' hlo' hhi' hC' hx' F' N' off' ne' => ?_) ?_); (all_goals (try (simp only [LCg.Off3, and_true] at off'))); (all_goals (try k_fold)))))
local macro_rules | `(tactic| walk_at "CompEnd") => `(tactic| (refine' LCg.CompEnd.intro ?zA ?zB ?zN ?zC ?zD ?zE ?zF; (case zF => exact item_F (fmod_lo _ (n := 10) (by decide)) (fmod_hi _ (n := 10) (by decide))); (case zA => assumption); (case zB => assumption); (case zC => kcf_all); (case zD => first | assumption | (simp only [LCg.Off3, and_true]; assumption)); (case zE => trivial)))
theorem runF {prog : Program} {w : World} {p : Program} {loose : List Str} {mean : ExcName → Option Value} {mg mb : Str → Option Value}
    {dp un : Nat} {gd : Option (List Code)} {cn : Str} {cs : Scope} {a : Addr} {ccd : Value} {cl : List (Str × Addr)} {outer : List Env} {A₀ : Around} {base h₀ : Heap} {L : Addr} {m : Str → Option Value} {s : Shared} {Q E : Value → Shared → Prop}
    {k sz : Int} {tp tk0 ts : Tok} {rest : List (Addr × Obj)}
    (B : Below A₀ base outer h₀) (F : Fr h₀ L s.heap m) (X : (hd.heap_39 w.params).In h₀) (N : News h₀ L s.heap rest)
    (Tp : Top p loose mean mg mb h₀) (hcs : cs.kind = .function) (hdp : dp + 6 < recursionLimit) (hun : un + 80 < cLine)
    (hs0 : 0 ≤ sz) (hs1 : sz ≤ 8)
    (hret : ∀ (l : List Nat) t h' tk', (∀ c ∈ l, PoolF c) → (l.length : Int) = sz → (tx l).length ≤ 8 → Fr h₀ L h' m → News h₀ L h' rest → Q (.str (tx l) t) { s with heap := h', toks := tk' }) :
    wpAny (model prog w) (ktrTop dp un gd cn cs L a ccd cl outer) (call (.ref 705) [.str (Str.ofString "0123456789") tp, .int k tk0, .int sz ts]) Q E s := by
  k_steps
  · rename News h₀ _ _ _ => kN
    exact hret _ _ _ _ (by assumption) (by rw [List.length_map]; omega) (by rw [tx_len, List.length_map]; omega) (by assumption) fun p hp => kN p (.tail _ (.tail _ (.tail _ hp)))
end
section
theorem reset32 : True := by
  w_top off
  trivial
/-! ### the lines (local) -/
local macro_rules | `(tactic| k_in) => `(tactic| first | with_reducible assumption | exact Frag.In.keeps (by with_reducible assumption) (Fr.keep (by with_reducible assumption)) | exact Frag.In.keeps (by with_reducible assumption) (Fr.keep (by k_asm)))
local macro_rules | `(tactic| k_room) => `(tactic| ktr_room)
/- entry into a def whose ledger is a part of the caller's -/
local macro_rules | `(tactic| ktr_enter) => `(tactic| (refine' code_lx ?k1 ?k2 ?k3 ?k4 ?kO ?k5 ?kA ?kF ?kK ?k6 ?k7 ?k8 ?k9 ?kB ?_ ?c2 ?c3 ?c4 ?c5; (case kA => exact rfl); (case kF => exact rfl); (case kK => first | exact rfl | assumption); (case k1 => k_asm); (case k2 => k_asm); (case k3 => k_asm); (case k4 => k_asm); (case kO => assumption); (case k5 => k_asm); (case k6 => k_is); (case k7 => k_is); (case k8 => k_room); (case k9 => first | exact BindsTo.of_eq rfl | exact binds_K (by k_in) rfl (by k_is) rfl rfl rfl | fail "k_enter: no rule for these arguments"); (case c5 => decide); (case kB => exact locs rfl); (case c2 => exact rfl); (case c3 => exact rfl); (case c4 => exact rfl); k_whole; intro g' L' h' FG' F' N' B' X' T' l1; (try k_lt l1); (try dsimp only); (try k_lift B'); (try k_fold)))
/- apartness -/
local macro_rules | `(tactic| ktr_rel) => `(tactic| first | assumption | ((try simp only [List.cons_append, List.nil_append, List.append_nil]); repeat (first | exact LxOff.nil | refine LxOff.cons (by k_all) ?_)))
/- a dict of six written entries and a tail -/
local macro_rules | `(tactic| k_get) => `(tactic| first
  | (refine' get6_hit ?hm ?h; (case hm => assumption); (case h => k_get))
  | (refine' get6_miss ?hm ?n1 ?n2 ?h; (case hm => assumption); (case n1 => decide +kernel); (case n2 => decide +kernel); (case h => k_get))
  | (refine' get6_is ?hm ?h ?h2; (case hm => assumption); (case h => k_get); (case h2 => (intro h9; exact absurd (h9.symm.trans (by k_get)) (by nofun)))))
local macro_rules | `(tactic| k_put) => `(tactic| (refine' put6 ?hm ?h; (case hm => assumption); (case h => k_put)))
local macro_rules | `(tactic| walk_at "setAttr ref") => `(tactic| (k_here; k_dflt ((refine' set_dict ?k1 ?k2 ?k3 ?k4 ?k5 ?k6 ?k7 ?k8 ?k9 ?k10 ?k11 ?k12 ?k13 ?_; (case k1 => k_asm); (case k2 => k_asm); (case k3 => k_asm); (case k4 => k_inst); (case k5 => exact rfl); (case k6 => k_is); (case k7 => k_is); (case k8 => k_is); (case k9 => k_is); (case k10 => k_get); (case k11 => k_put); (case k12 => k_upd); (case k13 => first | exact Nat.le_of_ble_eq_true rfl | (have h9 := MoreOk.len (by assumption); simp only [List.length_cons]; omega)); k_whole; intro h' F' N'; (try k_sweep)))))
local macro_rules | `(tactic| walk_at "call builtin:list.extend") => `(tactic| (k_here; (with_reducible show wpAny _ _ (call (Value.builtin _) [Value.ref _, Value.str _ _]) _ _ _); k_dflt (first
  | (refine' lx_extend0 ?hh ?F ?N ?D ?_; (case hh => exact rfl); (case F => k_asm); (case N => k_asm); (case D => k_mem); intro h' tk' F' N'; (try k_sweep))
  | (refine' lx_extend1 ?hh ?F ?N ?U ?_; (case hh => exact rfl); (case F => k_asm); (case N => k_asm); (case U => k_updF); intro h' tk' u' c' F' N'; (try dsimp only at N'); (try k_sweep)))))
local macro_rules | `(tactic| walk_at "call type:list") => `(tactic| (k_here; (with_reducible show wpAny _ _ (call (Value.type _) [Value.str _ _]) _ _ _); k_dflt (first
  | (refine' lx_list0 ?hh ?F ?N ?_; (case hh => exact rfl); (case F => k_asm); (case N => k_asm); intro p' h' tk' c' F' N' l1; (try k_lt l1); (try k_sweep))
  | (refine' lx_list1 ?hh ?F ?N ?_; (case hh => exact rfl); (case F => k_asm); (case N => k_asm); intro p' h' tk' u' c' F' N' l1; (try k_lt l1); (try k_sweep)))))
local macro_rules | `(tactic| tb_rel) => `(tactic| (refine' cb_drop ?cN ?cS; (case cN => assumption); (case cS => (repeat (first | exact List.forall_mem_nil _ | refine List.forall_mem_cons.mpr ⟨by k_mem, ?_⟩)))))
/-! ### for over a range, by an invariant over names and ledger -/
def LxTurn (h₀ : Heap) (L I : Addr) (oI : Obj) (J : (Str → Option Value) → List (Addr × Obj) → Prop) (s₁ : Shared) (Q : Flow → Shared → Prop) (f : Flow) (s₂ : Shared) : Prop :=
  match f with
  | .ret v => Q (.ret v) s₂
  | .brk => Q .next s₂
  | _ => ∃ h' tk m' news', s₂ = { s₁ with heap := h', toks := tk } ∧ Fr h₀ L h' m' ∧ News h₀ L h' ((I, oI) :: news') ∧ AllNe I news' ∧ J m' news'
section
variable {prog : Program} {w : World} {A : Around} {E : Value → Shared → Prop} {s : Shared} {env : Env} {h₀ : Heap} {x : Str} {body : List Stmt} {Q : Flow → Shared → Prop}
theorem lx_iter_rg {r : Addr} {a₀ b₀ : Int} {t₀ u₀ v₀ : Tok} {n : Nat} {m₀ : Str → Option Value} {news : List (Addr × Obj)} (J : Nat → (Str → Option Value) → List (Addr × Obj) → Prop)
    (hh : A.handled = none) (hr : IsRange s.heap r a₀ b₀ 1 t₀ u₀ v₀) (hsmall : Builtin.Range.small a₀ b₀ 1 = true) (hn : Builtin.Range.rangeSize a₀ b₀ 1 = (n : Int)) (F : Fr h₀ env.locals s.heap m₀) (N : News h₀ env.locals s.heap news) (hj : J 0 m₀ news)
    (turn : ∀ (I : Nat) (i : Nat) t m₁ news₁ h tk oI, i < n → J i m₁ news₁ → AllNe I news₁ → (∀ p ∈ news, p.1 < I) → Fr h₀ env.locals h (fun y => if y = x then some (.int (a₀ + (i : Int)) t) else m₁ y) → News h₀ env.locals h ((I, oI) :: news₁) →
      wpAny (model prog w) A (execs body env) (LxTurn h₀ env.locals I oI (J (i + 1)) { s with heap := h, toks := tk } Q) E { s with heap := h, toks := tk })
    (done : ∀ m₁ news₁ h tk, J n m₁ news₁ → Fr h₀ env.locals h m₁ → News h₀ env.locals h news₁ → Q .next { s with heap := h, toks := tk }) :
    wpAny (model prog w) A (pyIter (.ref r)) (fun it s₂ => LoopAtV prog w A h₀ env x body Q E it s₂) E s := by
  refine wpAny_pyIter_range hr hsmall ?_
  have W : Walks prog w A s.heap.objs.size [s.heap.objs.size] [s.heap.objs.size] n (fun i v => i < n ∧ ∃ t, v = .int (a₀ + i * 1) t)
      (fun i h => IsRangeIter h s.heap.objs.size (a₀ + (i : Nat) * 1) ((n : Int) - (i : Nat)) 1) := (Walks.range hh _ a₀ 1 n).bound
  let J' : Nat → (Str → Option Value) → List (Addr × Obj) → Prop := fun i m₁ news₁ => AllNe s.heap.objs.size news₁ ∧ J i m₁ news₁
  refine ⟨s.heap.objs.size, _, _, n, _, _, m₀, news, J', rfl, W, ?_, ?_, ?_, (by show IsRangeIter _ _ _ _ _; rw [hn]; simpa using Heap.get?_push_size _ rfl), F.push _, (fun p hp => ⟨Heap.get?_push_of_some _ (N p hp).1, (N p hp).2⟩), ⟨allNe_of fun p hp => Nat.ne_of_gt (Heap.lt_size (N p hp).1), hj⟩, ?_, ?_⟩
  · intro hm
    exact absurd F.ns.lt ((List.mem_singleton.mp hm) ▸ Nat.lt_irrefl _)
  · intro b hb
    rw [List.mem_singleton.mp hb]
    exact next_is_new F
  · intro p hp hI
    exact absurd (Heap.lt_size (N p hp).1) ((List.mem_singleton.mp hI) ▸ Nat.lt_irrefl _)
  · rintro i v m₁ news₁ s₁ own ⟨hh', tk', rfl⟩ hin ⟨_, t, rfl⟩ ⟨hne, hJ⟩ hoff hown hat hall st F₁ N₁
    have st' : hh'.get? s.heap.objs.size = some _ := st
    obtain ⟨oI, hoI⟩ : ∃ oI, hh'.get? s.heap.objs.size = some oI := ⟨_, st'⟩
    have hmem : (s.heap.objs.size, oI) ∈ own := hall _ (List.mem_singleton.mpr rfl) (next_is_new F) oI hoI
    have hone : ∀ p ∈ own, p = (s.heap.objs.size, oI) := fun p hp => by
      have h1 := List.mem_singleton.mp (hown p hp)
      have h2 := hat p hp
      dsimp only at h2
      rw [h1, hoI] at h2
      exact Prod.ext h1 (Option.some.inj h2).symm
    have N₂ : News h₀ env.locals hh' ((s.heap.objs.size, oI) :: news₁) := fun p hp => by
      rcases List.mem_cons.mp hp with h | hp
      · exact h ▸ N₁ _ (List.mem_append_left _ hmem)
      · exact N₁ _ (List.mem_append_right _ hp)
    have F₂ : Fr h₀ env.locals hh' (fun y => if y = x then some (.int (a₀ + (i : Int)) t) else m₁ y) := by
      have e : (a₀ + (i : Int) * 1) = a₀ + (i : Int) := by rw [Int.mul_one]
      rw [← e]; exact F₁
    refine wpAny_mono (turn s.heap.objs.size i t m₁ news₁ hh' tk' oI hin hJ hne (fun p hp => Heap.lt_size (N p hp).1) F₂ N₂) (fun f s₂ p => ?_) fun _ _ e => e
    have fin : (∃ h' tk m' news', s₂ = { ({ s with heap := hh', toks := tk' } : Shared) with heap := h', toks := tk } ∧ Fr h₀ env.locals h' m' ∧ News h₀ env.locals h' ((s.heap.objs.size, oI) :: news') ∧ AllNe s.heap.objs.size news' ∧ J (i + 1) m' news') → LoopStepU h₀ env.locals [s.heap.objs.size] own (J' (i + 1)) { s with heap := hh', toks := tk' } .next s₂ := by
      rintro ⟨h', tk, m', news', e, F', N', hne', hJ'⟩
      refine ⟨rfl, h', tk, m', news', e, F', fun p hp => ?_, fun p hp hq => ?_, hne', hJ'⟩
      · rcases List.mem_append.mp hp with hp | hp
        · rw [hone p hp]; exact N' _ (.head _)
        · exact N' p (.tail _ hp)
      · exact absurd (List.mem_singleton.mp hq).symm (hne'.at p hp)
    cases f with
    | ret v => exact .ret p
    | brk => exact .brk p
    | next => exact .next (fin p)
    | cont => exact .cont (fin p)
  · rintro h' tk m' news' F' N' _ ⟨_, hJ⟩
    exact done m' news' h' tk hJ F' N'
end
section
variable {prog : Program} {w : World} {A : Around} {E : Value → Shared → Prop} {s : Shared} {env : Env} {h₀ : Heap} {x : Str} {body : List Stmt} {Q : Flow → Shared → Prop}
theorem lx_iter_any {n : Nat} {P : Nat → Value → Prop} {St : Nat → Heap → Prop} {o0 : Obj} {m₀ : Str → Option Value} {news : List (Addr × Obj)} (J : Nat → (Str → Option Value) → List (Addr × Obj) → Prop)
    (W : Walks prog w A s.heap.objs.size [s.heap.objs.size] [s.heap.objs.size] n P St) (hSt : ∀ i h, St i h → ∃ o, h.get? s.heap.objs.size = some o) (hst : St 0 (s.heap.push o0)) (F : Fr h₀ env.locals s.heap m₀) (N : News h₀ env.locals s.heap news) (hj : J 0 m₀ news)
    (turn : ∀ (I : Nat) (i : Nat) v m₁ news₁ h tk oI, i < n → P i v → J i m₁ news₁ → AllNe I news₁ → (∀ p ∈ news, p.1 < I) → Fr h₀ env.locals h (fun y => if y = x then some v else m₁ y) → News h₀ env.locals h ((I, oI) :: news₁) →
      wpAny (model prog w) A (execs body env) (LxTurn h₀ env.locals I oI (J (i + 1)) { s with heap := h, toks := tk } Q) E { s with heap := h, toks := tk })
    (done : ∀ m₁ news₁ h tk, J n m₁ news₁ → Fr h₀ env.locals h m₁ → News h₀ env.locals h news₁ → Q .next { s with heap := h, toks := tk }) :
    LoopAtV prog w A h₀ env x body Q E (.ref s.heap.objs.size) { s with heap := s.heap.push o0 } := by
  let J' : Nat → (Str → Option Value) → List (Addr × Obj) → Prop := fun i m₁ news₁ => AllNe s.heap.objs.size news₁ ∧ J i m₁ news₁
  refine ⟨s.heap.objs.size, _, _, n, _, _, m₀, news, J', rfl, W, ?_, ?_, ?_, hst, F.push _, (fun p hp => ⟨Heap.get?_push_of_some _ (N p hp).1, (N p hp).2⟩), ⟨allNe_of fun p hp => Nat.ne_of_gt (Heap.lt_size (N p hp).1), hj⟩, ?_, ?_⟩
  · intro hm
    exact absurd F.ns.lt ((List.mem_singleton.mp hm) ▸ Nat.lt_irrefl _)
  · intro b hb
    rw [List.mem_singleton.mp hb]
    exact next_is_new F
  · intro p hp hI
    exact absurd (Heap.lt_size (N p hp).1) ((List.mem_singleton.mp hI) ▸ Nat.lt_irrefl _)
  · rintro i v m₁ news₁ s₁ own ⟨hh', tk', rfl⟩ hin hP ⟨hne, hJ⟩ hoff hown hat hall st F₁ N₁
    obtain ⟨oI, hoI⟩ := hSt _ _ st
    have hmem : (s.heap.objs.size, oI) ∈ own := hall _ (List.mem_singleton.mpr rfl) (next_is_new F) oI hoI
    have hone : ∀ p ∈ own, p = (s.heap.objs.size, oI) := fun p hp => by
      have h1 := List.mem_singleton.mp (hown p hp)
      have h2 := hat p hp
      rw [h1] at h2
      have h3 : some oI = some p.2 := hoI.symm.trans h2
      exact Prod.ext h1 (Option.some.inj h3).symm
    have N₂ : News h₀ env.locals hh' ((s.heap.objs.size, oI) :: news₁) := fun p hp => by
      rcases List.mem_cons.mp hp with h | hp
      · exact h ▸ N₁ _ (List.mem_append_left _ hmem)
      · exact N₁ _ (List.mem_append_right _ hp)
    refine wpAny_mono (turn s.heap.objs.size i v m₁ news₁ hh' tk' oI hin hP hJ hne (fun p hp => Heap.lt_size (N p hp).1) F₁ N₂) (fun f s₂ p => ?_) fun _ _ e => e
    have fin : (∃ h' tk m' news', s₂ = { ({ s with heap := hh', toks := tk' } : Shared) with heap := h', toks := tk } ∧ Fr h₀ env.locals h' m' ∧ News h₀ env.locals h' ((s.heap.objs.size, oI) :: news') ∧ AllNe s.heap.objs.size news' ∧ J (i + 1) m' news') → LoopStepU h₀ env.locals [s.heap.objs.size] own (J' (i + 1)) { s with heap := hh', toks := tk' } .next s₂ := by
      rintro ⟨h', tk, m', news', e, F', N', hne', hJ'⟩
      refine ⟨rfl, h', tk, m', news', e, F', fun p hp => ?_, fun p hp hq => ?_, hne', hJ'⟩
      · rcases List.mem_append.mp hp with hp | hp
        · rw [hone p hp]; exact N' _ (.head _)
        · exact N' p (.tail _ hp)
      · exact absurd (List.mem_singleton.mp hq).symm (hne'.at p hp)
    cases f with
    | ret v => exact .ret p
    | brk => exact .brk p
    | next => exact .next (fin p)
    | cont => exact .cont (fin p)
  · rintro h' tk m' news' F' N' _ ⟨_, hJ⟩
    exact done m' news' h' tk hJ F' N'
theorem lx_iter_str {l : List Nat} {t0 : Tok} {m₀ : Str → Option Value} {news : List (Addr × Obj)} (J : Nat → (Str → Option Value) → List (Addr × Obj) → Prop)
    (hh : A.handled = none) (F : Fr h₀ env.locals s.heap m₀) (N : News h₀ env.locals s.heap news) (hj : J 0 m₀ news)
    (turn : ∀ (I : Nat) (i : Nat) c t m₁ news₁ h tk oI, l[i]? = some c → J i m₁ news₁ → AllNe I news₁ → (∀ p ∈ news, p.1 < I) → Fr h₀ env.locals h (fun y => if y = x then some (.str (tx [c]) t) else m₁ y) → News h₀ env.locals h ((I, oI) :: news₁) →
      wpAny (model prog w) A (execs body env) (LxTurn h₀ env.locals I oI (J (i + 1)) { s with heap := h, toks := tk } Q) E { s with heap := h, toks := tk })
    (done : ∀ m₁ news₁ h tk, J l.length m₁ news₁ → Fr h₀ env.locals h m₁ → News h₀ env.locals h news₁ → Q .next { s with heap := h, toks := tk }) :
    wpAny (model prog w) A (pyIter (.str (tx l) t0)) (fun it s₂ => LoopAtV prog w A h₀ env x body Q E it s₂) E s := by
  have trn : ∀ (I : Nat) (i : Nat) v m₁ news₁ h tk oI, i < (tx l).cps.size → SignAt (tx l) i v → J i m₁ news₁ → AllNe I news₁ → (∀ p ∈ news, p.1 < I) → Fr h₀ env.locals h (fun y => if y = x then some v else m₁ y) → News h₀ env.locals h ((I, oI) :: news₁) →
      wpAny (model prog w) A (execs body env) (LxTurn h₀ env.locals I oI (J (i + 1)) { s with heap := h, toks := tk } Q) E { s with heap := h, toks := tk } := by
    intro I i v m₁ news₁ h tk oI hi hP
    obtain ⟨c, u, hc, rfl⟩ := hP
    exact turn I i c u m₁ news₁ h tk oI (by simpa using hc)
  have dn : ∀ m₁ news₁ h tk, J (tx l).cps.size m₁ news₁ → Fr h₀ env.locals h m₁ → News h₀ env.locals h news₁ → Q .next { s with heap := h, toks := tk } := by
    intro m₁ news₁ h tk hJ
    exact done m₁ news₁ h tk (by simpa using hJ)
  cases ha : (tx l).cps.all (· < 128)
  · exact wpAny_pyIter_wide ha (lx_iter_any J (Walks.strWide hh _ _ _) (fun i h st => by obtain ⟨o, e, _⟩ := st; exact ⟨o, e⟩) ⟨_, Heap.get?_push_size _ rfl, rfl, rfl⟩ F N hj trn dn)
  · exact wpAny_pyIter_ascii ha (lx_iter_any J (Walks.strAscii hh _ _ _) (fun i h st => by obtain ⟨o, e, _⟩ := st; exact ⟨o, e⟩) ⟨_, Heap.get?_push_size _ rfl, rfl, rfl⟩ F N hj trn dn)
end
end
section
theorem reset33 : True := by
  w_top off
  trivial
/-! ### the lines (local) -/
local macro_rules | `(tactic| k_in) => `(tactic| first | with_reducible assumption | exact Frag.In.keeps (by with_reducible assumption) (Fr.keep (by with_reducible assumption)) | exact Frag.In.keeps (by with_reducible assumption) (Fr.keep (by k_asm)))
local macro_rules | `(tactic| k_room) => `(tactic| ktr_room)
/- entry into a def whose ledger is a part of the caller's -/
local macro_rules | `(tactic| ktr_enter) => `(tactic| (refine' code_lx ?k1 ?k2 ?k3 ?k4 ?kO ?k5 ?kA ?kF ?kK ?k6 ?k7 ?k8 ?k9 ?kB ?_ ?c2 ?c3 ?c4 ?c5; (case kA => exact rfl); (case kF => exact rfl); (case kK => first | exact rfl | assumption); (case k1 => k_asm); (case k2 => k_asm); (case k3 => k_asm); (case k4 => k_asm); (case kO => assumption); (case k5 => k_asm); (case k6 => k_is); (case k7 => k_is); (case k8 => k_room); (case k9 => first | exact BindsTo.of_eq rfl | exact binds_K (by k_in) rfl (by k_is) rfl rfl rfl | fail "k_enter: no rule for these arguments"); (case c5 => decide); (case kB => exact locs rfl); (case c2 => exact rfl); (case c3 => exact rfl); (case c4 => exact rfl); k_whole; intro g' L' h' FG' F' N' B' X' T' l1; (try k_lt l1); (try dsimp only); (try k_lift B'); (try k_fold)))
/- apartness -/
local macro_rules | `(tactic| ktr_rel) => `(tactic| first | assumption | ((try simp only [List.cons_append, List.nil_append, List.append_nil]); repeat (first | exact LxOff.nil | refine LxOff.cons (by k_all) ?_)))
/- a dict of six written entries and a tail -/
local macro_rules | `(tactic| k_get) => `(tactic| first
  | (refine' get6_hit ?hm ?h; (case hm => assumption); (case h => k_get))
  | (refine' get6_miss ?hm ?n1 ?n2 ?h; (case hm => assumption); (case n1 => decide +kernel); (case n2 => decide +kernel); (case h => k_get))
  | (refine' get6_is ?hm ?h ?h2; (case hm => assumption); (case h => k_get); (case h2 => (intro h9; exact absurd (h9.symm.trans (by k_get)) (by nofun)))))
local macro_rules | `(tactic| k_put) => `(tactic| (refine' put6 ?hm ?h; (case hm => assumption); (case h => k_put)))
local macro_rules | `(tactic| walk_at "setAttr ref") => `(tactic| (k_here; k_dflt ((refine' set_dict ?k1 ?k2 ?k3 ?k4 ?k5 ?k6 ?k7 ?k8 ?k9 ?k10 ?k11 ?k12 ?k13 ?_; (case k1 => k_asm); (case k2 => k_asm); (case k3 => k_asm); (case k4 => k_inst); (case k5 => exact rfl); (case k6 => k_is); (case k7 => k_is); (case k8 => k_is); (case k9 => k_is); (case k10 => k_get); (case k11 => k_put); (case k12 => k_upd); (case k13 => first | exact Nat.le_of_ble_eq_true rfl | (have h9 := MoreOk.len (by assumption); simp only [List.length_cons]; omega)); k_whole; intro h' F' N'; (try k_sweep)))))
local macro_rules | `(tactic| walk_at "call builtin:list.extend") => `(tactic| (k_here; (with_reducible show wpAny _ _ (call (Value.builtin _) [Value.ref _, Value.str _ _]) _ _ _); k_dflt (first
  | (refine' lx_extend0 ?hh ?F ?N ?D ?_; (case hh => exact rfl); (case F => k_asm); (case N => k_asm); (case D => k_mem); intro h' tk' F' N'; (try k_sweep))
  | (refine' lx_extend1 ?hh ?F ?N ?U ?_; (case hh => exact rfl); (case F => k_asm); (case N => k_asm); (case U => k_updF); intro h' tk' u' c' F' N'; (try dsimp only at N'); (try k_sweep)))))
local macro_rules | `(tactic| walk_at "call type:list") => `(tactic| (k_here; (with_reducible show wpAny _ _ (call (Value.type _) [Value.str _ _]) _ _ _); k_dflt (first
  | (refine' lx_list0 ?hh ?F ?N ?_; (case hh => exact rfl); (case F => k_asm); (case N => k_asm); intro p' h' tk' c' F' N' l1; (try k_lt l1); (try k_sweep))
  | (refine' lx_list1 ?hh ?F ?N ?_; (case hh => exact rfl); (case F => k_asm); (case N => k_asm); intro p' h' tk' u' c' F' N' l1; (try k_lt l1); (try k_sweep)))))
local macro_rules | `(tactic| tb_rel) => `(tactic| (refine' cb_drop ?cN ?cS; (case cN => assumption); (case cS => (repeat (first | exact List.forall_mem_nil _ | refine List.forall_mem_cons.mpr ⟨by k_mem, ?_⟩)))))
local macro_rules | `(tactic| k_all) => `(tactic| assumption)
local macro_rules | `(tactic| k_enter) => `(tactic| (refine' code_defC ?k1 ?k2 ?k3 ?k4 ?k5 ?kA ?kF ?kK ?k6 ?k7 ?k8 ?k9 ?kB ?kD ?_ ?c2 ?c3 ?c4; (case kA => exact rfl); (case kF => exact rfl); (case kK => first | exact rfl | assumption); (case k1 => k_asm); (case k2 => k_asm); (case k3 => k_asm); (case k4 => k_asm); (case k5 => k_asm); (case k6 => k_is); (case k7 => k_is); (case k8 => k_room); (case k9 => first | exact BindsTo.of_eq rfl | exact binds_K (by k_in) rfl (by k_is) rfl rfl rfl); (case kB => exact rfl); (case kD => decide +kernel); (case c2 => exact rfl); (case c3 => exact rfl); (case c4 => exact rfl); k_whole; intro g' L' h' tk' cells' FG' F' N' Y' B' X' T' l1; (try k_lt l1); k_cells Y'; (try simp only [List.cons_append, List.nil_append] at N'); (try dsimp only); (try k_lift B'); (try k_fold)))
local macro_rules | `(tactic| walk_at "call builtin:str.join") => `(tactic| (k_here; (with_reducible show wpAny _ _ (call (Value.builtin _) [Value.str _ _, Value.ref _]) _ _ _); k_dflt (refine' lx_join ?N ?D ?l ?_; (case N => k_asm); (case D => k_mem); (case l => first | assumption | omega)); intro t' k' hl'))
local macro_rules | `(tactic| walk_at "exec For Name Call cons nil") => `(tactic| (k_here; (rename Fr _ _ _ _ => lF'); (with_unfolding_all refine' For_invVF lF' ?k1 ?k2 ?_; (case k1 => exact rfl); (case k2 => exact rfl); k_whole)))
local macro_rules | `(tactic| walk_at "pyIter ref") => `(tactic| (k_here; (with_reducible show wpAny _ _ (pyIter (Value.ref _)) (fun it s₂ => LoopAtV _ _ _ _ _ _ _ _ _ it s₂) _ _); refine lx_hold ?_))
local macro_rules | `(tactic| tb_start) => `(tactic| ((repeat' apply And.intro) <;> first | assumption | omega | rfl | l_fact))
local macro_rules | `(tactic| walk_at "call ref") => `(tactic| (k_here; (with_reducible show wpAny _ _ (call (Value.ref 700) [Value.ref _, Value.int _ _] []) _ _ _); k_dflt (refine' numC (pre := []) ?k1 ?k2 ?k3 ?k4 ?k5 ?kK ?kd ?ku ?kO ?kS ?_; (case k4 => k_asm); (case kS => tb_start); (case k1 => k_asm); (case k2 => k_asm); (case k3 => k_asm); (case k5 => k_asm); (case kK => first | exact rfl | assumption); (case kd => ktr_room); (case ku => ktr_units); (case kO => ktr_rel); intro r' t' h' tk' F' N'; (try simp only [List.cons_append, List.nil_append] at N'); (try dsimp only); (try k_fold); (try k_sweep))))
local macro_rules | `(tactic| walk_at "call ref") => `(tactic| (k_here; (with_reducible show wpAny _ _ (call (Value.ref 705) [Value.str _ _, Value.int _ _, Value.int _ _] []) _ _ _); k_dflt (first
  | (refine' runL ?k1 ?k2 ?k3 ?k4 ?k5 ?kK ?kd ?ku ?ks ?kt ?_; (case k4 => k_asm); (case k1 => k_asm); (case k2 => k_asm); (case k3 => k_asm); (case k5 => k_asm); (case kK => first | exact rfl | assumption); (case kd => ktr_room); (case ku => ktr_units); (case ks => first | omega | l_fact); (case kt => first | omega | l_fact); intro l' t' h' tk' hp' hl' hz' F' N'; (try k_fold); (try k_sweep))
  | (refine' runF ?k1 ?k2 ?k3 ?k4 ?k5 ?kK ?kd ?ku ?ks ?kt ?_; (case k4 => k_asm); (case k1 => k_asm); (case k2 => k_asm); (case k3 => k_asm); (case k5 => k_asm); (case kK => first | exact rfl | assumption); (case kd => ktr_room); (case ku => ktr_units); (case ks => first | omega | l_fact); (case kt => first | omega | l_fact); intro l' t' h' tk' hp' hl' hz' F' N'; (try k_fold); (try k_sweep)))))
def TextI (mB : Str → Option Value) (cell : Nat) (rest : List (Addr × Obj)) (i : Nat) (m₁ : Str → Option Value) (news₁ : List (Addr × Obj)) : Prop :=
  ∃ (l : List Nat) (t : Tok) (u1 u2 : Option Value) (oc : Obj) (ov : Option Value), m₁ = (fun y => if y = Str.ofString "text" then some (.str (tx l) t) else if y = Str.ofString "kind" then u1 else if y = Str.ofString "k" then u2 else mB y) ∧
    news₁ = (cell, oc) :: rest ∧ oc.data = .cell ov ∧ i ≤ l.length ∧ l.length ≤ 8 * i ∧ (∀ c ∈ l, Sign c)
theorem Fr.pad {h₀ h : Heap} {L : Addr} {mB : Str → Option Value} {t : Tok} (F : Fr h₀ L h (fun y => if y = Str.ofString "text" then some (.str (Str.ofString "") t) else mB y)) :
    Fr h₀ L h (fun y => if y = Str.ofString "text" then some (.str (tx []) t) else if y = Str.ofString "kind" then mB (Str.ofString "kind") else if y = Str.ofString "k" then mB (Str.ofString "k") else mB y) := by
  have e : (fun y => if y = Str.ofString "text" then some (.str (tx []) t) else if y = Str.ofString "kind" then mB (Str.ofString "kind") else if y = Str.ofString "k" then mB (Str.ofString "k") else mB y) = (fun y => if y = Str.ofString "text" then some (.str (Str.ofString "") t) else mB y) := by
    funext y
    rw [ofString_nil]
    by_cases h1 : y = Str.ofString "text"
    · rw [if_pos h1, if_pos h1]
    · rw [if_neg h1, if_neg h1]
      by_cases h2 : y = Str.ofString "kind"
      · rw [if_pos h2, h2]
      · rw [if_neg h2]
        by_cases h3 : y = Str.ofString "k"
        · rw [if_pos h3, h3]
        · rw [if_neg h3]
  rw [e]
  exact F
theorem text_turn {g' h' : Heap} {L I cell : Nat} {oI oc : Obj} {mB : Str → Option Value} {rest : List (Addr × Obj)} {i : Nat} {l l2 : List Nat} {t : Tok} {b c a' b' c' ov : Option Value} {s₁ : Shared} {Q : Flow → Shared → Prop} {tk : Nat}
    (F : Fr g' L h' (fun y => if y = Str.ofString "text" then some (.str (tx l ++ tx l2) t) else if y = Str.ofString "kind" then b else if y = Str.ofString "k" then c else if y = Str.ofString "text" then a' else if y = Str.ofString "kind" then b' else if y = Str.ofString "k" then c' else mB y))
    (N : News g' L h' ((I, oI) :: (cell, oc) :: rest)) (hoc : oc.data = .cell ov) (h1 : I ≠ cell) (h2 : AllNe I rest) (hl0 : i ≤ l.length) (hl1 : l.length ≤ 8 * i) (hsg : ∀ c ∈ l, Sign c) (k0 : 1 ≤ l2.length) (k1 : l2.length ≤ 8) (ks : ∀ c ∈ l2, Sign c) :
    LxTurn g' L I oI (TextI mB cell rest (i + 1)) s₁ Q .next { s₁ with heap := h', toks := tk } := by
  have F2 := Fr.again3 F
  rw [tx_app] at F2
  refine ⟨h', tk, _, (cell, oc) :: rest, rfl, F2, N, ⟨h1, h2⟩, l ++ l2, t, b, c, oc, ov, rfl, rfl, hoc, ?_, ?_, fun c hc => ?_⟩
  · rw [List.length_append]; omega
  · rw [List.length_append]; omega
  · rcases List.mem_append.mp hc with hc | hc
    · exact hsg c hc
    · exact ks c hc
local macro_rules | `(tactic| walk_at "CompSrc") => `(tactic| (k_here; (try k_fmods); k_dflt (refine LCg.CompSrc.range (by rfl) (by k_asm) (by k_asm) (by assumption) (by first | exact small_one (by kcf_bnd) (by kcf_bnd) (by kcf_bnd) (by kcf_bnd) | decide) (by first | exact rangeSize_nat _ _ | rfl) (by first | exact Nat.le_of_ble_eq_true rfl | (rw [PySem.sizeLine_eq]; omega)) ?_; intro g'; (refine' lx_comp PoolO (fun k' t' I' oI' C' oC' D' m' ys' h' tk' E' hlo' hhi' hC' hx' F' N' off' ne' => ?_) ?_); (all_goals (try (simp only [LCg.Off3, and_true] at off'))); (all_goals (try k_fold)))))
local macro_rules | `(tactic| walk_at "CompEnd") => `(tactic| (refine' LCg.CompEnd.intro ?zA ?zB ?zN ?zC ?zD ?zE ?zF; (case zF => exact item_O (fmod_lo _ (n := 10) (by decide)) (fmod_hi _ (n := 10) (by decide))); (case zA => assumption); (case zB => assumption); (case zC => kcf_all); (case zD => first | assumption | (simp only [LCg.Off3, and_true]; assumption)); (case zE => trivial)))
theorem textC {prog : Program} {w : World} {p : Program} {loose : List Str} {mean : ExcName → Option Value} {mg mb : Str → Option Value}
    {dp un : Nat} {gd : Option (List Code)} {cn : Str} {cs : Scope} {a : Addr} {ccd : Value} {cl : List (Str × Addr)} {outer : List Env} {A₀ : Around} {base h₀ : Heap} {L : Addr} {m : Str → Option Value} {s : Shared} {Q E : Value → Shared → Prop}
    {sl : Nat} {vs : List Value} {ns : List Int} {rest : List (Addr × Obj)}
    (B : Below A₀ base outer h₀) (F : Fr h₀ L s.heap m) (X : (hd.heap_39 w.params).In h₀) (N : News h₀ L s.heap rest)
    (Tp : Top p loose mean mg mb h₀) (hcs : cs.kind = .function) (hdp : dp + 10 < recursionLimit) (hun : un + 120 < cLine)
    (hside : h₀.IsList sl vs.toArray ∧ IntsAre vs ns ∧ ns.length ≤ 63)
    (hret : ∀ (l : List Nat) t h' tk', (∀ c ∈ l, Sign c) → 2 ≤ l.length → l.length ≤ 100 → Fr h₀ L h' m → News h₀ L h' rest → Q (.str (tx l) t) { s with heap := h', toks := tk' }) :
    wpAny (model prog w) (ktrTop dp un gd cn cs L a ccd cl outer) (call (.ref 710) [.ref sl]) Q E s := by
  obtain ⟨hS, hI, hlen⟩ := hside
  refine wpAny_call ?_
  k_dflt (refine' code_defC (binds := [(Str.ofString "script", Value.ref sl)]) ?k1 ?k2 ?k3 ?k4 ?k5 ?kA ?kF ?kK ?k6 ?k7 ?k8 ?k9 ?kB ?kD ?_ ?c2 ?c3 ?c4; (case kA => exact rfl); (case kF => exact rfl); (case kK => first | exact rfl | assumption); (case k1 => k_asm); (case k2 => k_asm); (case k3 => k_asm); (case k4 => k_asm); (case k5 => k_asm); (case k6 => k_is); (case k7 => k_is); (case k8 => k_room); (case k9 => exact BindsTo.of_eq rfl); (case kB => exact rfl); (case kD => decide +kernel); (case c2 => exact rfl); (case c3 => exact rfl); (case c4 => exact rfl); k_whole; intro g' L' h' tk' cells' FG' F' N' Y' B' X' T' l1; k_cells Y'; (try simp only [List.cons_append, List.nil_append] at N'); (try dsimp only); (try k_lift B'); (try k_fold))
  have hS' := Fr.lst (h₀ := h₀) (by assumption) hS
  have hcell : ∀ p ∈ rest, p.1 ≠ L' + 1 := fun p hp => Nat.ne_of_lt (Nat.lt_of_lt_of_le (l1 p hp) (Nat.le_succ _))
  k_steps
  refine LxHold.out ?_
  rename IsRange _ _ _ _ _ _ _ _ => rg
  rename Fr g' L' _ _ => Fz
  rename News g' L' _ _ => Nz
  rename Int => rr
  have hr0 := fmod_lo rr (n := 7) (by decide)
  have hr1 := fmod_hi rr (n := 7) (by decide)
  refine lx_iter_rg (n := (2 + rr.fmod 7).toNat) (TextI _ (L' + 1) rest) rfl rg (small_one (by omega) (by omega) (by omega) (by omega)) ?_ (Fr.pad Fz) Nz ⟨[], _, _, _, _, _, rfl, rfl, by assumption, Nat.le_refl _, Nat.le_refl _, fun _ h => nomatch h⟩ ?_ ?_
  · exact (rangeSize_nat _ _).trans (by rw [Int.sub_zero])
  · intro I i t m₁ news₁ h tk oI hi hJ hne hlt F1 N1
    obtain ⟨l, t1, u1, u2, oc, ov, rfl, rfl, hoc, hl0, hl1, hsg⟩ := hJ
    obtain ⟨hI1, hI2⟩ := hne
    dsimp only at hI1
    have hT1 : (tx l).length ≤ 72 := by rw [tx_len]; omega
    have hI3 : ∀ p ∈ rest, p.1 ≠ I := fun p hp => (hI2.at p hp).symm
    k_steps
    · exact text_turn (by assumption) (by assumption) (by assumption) hI1 hI2 hl0 hl1 hsg (by first | omega | l_fact) (by first | omega | l_fact) (fun c hc => .inl ((by assumption : ∀ c ∈ _, PoolL c) c hc))
    · exact text_turn (by assumption) (by assumption) (by assumption) hI1 hI2 hl0 hl1 hsg (by first | omega | l_fact) (by first | omega | l_fact) (fun c hc => .inr (.inl ((by assumption : ∀ c ∈ _, PoolF c) c hc)))
    · rename News g' _ _ _ => NN
      exact text_turn (by assumption) (fun p hp => NN p (.tail _ hp)) (by assumption) hI1 hI2 hl0 hl1 hsg (by rw [List.length_map]; first | omega | l_fact) (by rw [List.length_map]; first | omega | l_fact) (fun c hc => .inr (.inr ((by assumption : ∀ c ∈ List.map _ _, PoolO c) c hc)))
  · intro m₁ news₁ h tk hJ F1 N1
    obtain ⟨l, t1, u1, u2, oc, ov, rfl, rfl, hoc, hl0, hl1, hsg⟩ := hJ
    k_steps
    rename News h₀ _ _ _ => kN
    exact hret l t1 _ _ hsg (by omega) (by omega) (by assumption) fun p hp => kN p (.tail _ hp)
end
section
theorem reset34 : True := by
  w_top off
  trivial
/-! ### the lines (local) -/
local macro_rules | `(tactic| k_in) => `(tactic| first | with_reducible assumption | exact Frag.In.keeps (by with_reducible assumption) (Fr.keep (by with_reducible assumption)) | exact Frag.In.keeps (by with_reducible assumption) (Fr.keep (by k_asm)))
local macro_rules | `(tactic| k_room) => `(tactic| ktr_room)
/- entry into a def whose ledger is a part of the caller's -/
local macro_rules | `(tactic| ktr_enter) => `(tactic| (refine' code_lx ?k1 ?k2 ?k3 ?k4 ?kO ?k5 ?kA ?kF ?kK ?k6 ?k7 ?k8 ?k9 ?kB ?_ ?c2 ?c3 ?c4 ?c5; (case kA => exact rfl); (case kF => exact rfl); (case kK => first | exact rfl | assumption); (case k1 => k_asm); (case k2 => k_asm); (case k3 => k_asm); (case k4 => k_asm); (case kO => assumption); (case k5 => k_asm); (case k6 => k_is); (case k7 => k_is); (case k8 => k_room); (case k9 => first | exact BindsTo.of_eq rfl | exact binds_K (by k_in) rfl (by k_is) rfl rfl rfl | fail "k_enter: no rule for these arguments"); (case c5 => decide); (case kB => exact locs rfl); (case c2 => exact rfl); (case c3 => exact rfl); (case c4 => exact rfl); k_whole; intro g' L' h' FG' F' N' B' X' T' l1; (try k_lt l1); (try dsimp only); (try k_lift B'); (try k_fold)))
/- apartness -/
local macro_rules | `(tactic| ktr_rel) => `(tactic| first | assumption | ((try simp only [List.cons_append, List.nil_append, List.append_nil]); repeat (first | exact LxOff.nil | refine LxOff.cons (by k_all) ?_)))
/- a dict of six written entries and a tail -/
local macro_rules | `(tactic| k_get) => `(tactic| first
  | (refine' get6_hit ?hm ?h; (case hm => assumption); (case h => k_get))
  | (refine' get6_miss ?hm ?n1 ?n2 ?h; (case hm => assumption); (case n1 => decide +kernel); (case n2 => decide +kernel); (case h => k_get))
  | (refine' get6_is ?hm ?h ?h2; (case hm => assumption); (case h => k_get); (case h2 => (intro h9; exact absurd (h9.symm.trans (by k_get)) (by nofun)))))
local macro_rules | `(tactic| k_put) => `(tactic| (refine' put6 ?hm ?h; (case hm => assumption); (case h => k_put)))
local macro_rules | `(tactic| walk_at "setAttr ref") => `(tactic| (k_here; k_dflt ((refine' set_dict ?k1 ?k2 ?k3 ?k4 ?k5 ?k6 ?k7 ?k8 ?k9 ?k10 ?k11 ?k12 ?k13 ?_; (case k1 => k_asm); (case k2 => k_asm); (case k3 => k_asm); (case k4 => k_inst); (case k5 => exact rfl); (case k6 => k_is); (case k7 => k_is); (case k8 => k_is); (case k9 => k_is); (case k10 => k_get); (case k11 => k_put); (case k12 => k_upd); (case k13 => first | exact Nat.le_of_ble_eq_true rfl | (have h9 := MoreOk.len (by assumption); simp only [List.length_cons]; omega)); k_whole; intro h' F' N'; (try k_sweep)))))
local macro_rules | `(tactic| walk_at "call builtin:list.extend") => `(tactic| (k_here; (with_reducible show wpAny _ _ (call (Value.builtin _) [Value.ref _, Value.str _ _]) _ _ _); k_dflt (first
  | (refine' lx_extend0 ?hh ?F ?N ?D ?_; (case hh => exact rfl); (case F => k_asm); (case N => k_asm); (case D => k_mem); intro h' tk' F' N'; (try k_sweep))
  | (refine' lx_extend1 ?hh ?F ?N ?U ?_; (case hh => exact rfl); (case F => k_asm); (case N => k_asm); (case U => k_updF); intro h' tk' u' c' F' N'; (try dsimp only at N'); (try k_sweep)))))
local macro_rules | `(tactic| walk_at "call type:list") => `(tactic| (k_here; (with_reducible show wpAny _ _ (call (Value.type _) [Value.str _ _]) _ _ _); k_dflt (first
  | (refine' lx_list0 ?hh ?F ?N ?_; (case hh => exact rfl); (case F => k_asm); (case N => k_asm); intro p' h' tk' c' F' N' l1; (try k_lt l1); (try k_sweep))
  | (refine' lx_list1 ?hh ?F ?N ?_; (case hh => exact rfl); (case F => k_asm); (case N => k_asm); intro p' h' tk' u' c' F' N' l1; (try k_lt l1); (try k_sweep)))))
local macro_rules | `(tactic| tb_rel) => `(tactic| (refine' cb_drop ?cN ?cS; (case cN => assumption); (case cS => (repeat (first | exact List.forall_mem_nil _ | refine List.forall_mem_cons.mpr ⟨by k_mem, ?_⟩)))))
/-! ### the law's own walk over the runs, in plain words -/
def kindOf (c : Nat) : String := if al c = true then "STRING" else if dg c = true then "NUMBER" else ""
def runTk (a b : Int) (run : List Nat) (kd : String) : List (String × List Nat) :=
  if kd = "STRING" then (if a ≤ (run.length : Int) then [("STRING", run)] else []) else if kd = "NUMBER" then (if b ≤ (run.length : Int) then [("NUMBER", run)] else []) else []
def runsStep (a b : Int) (st : List (String × List Nat) × List Nat × String) (c : Nat) : List (String × List Nat) × List Nat × String :=
  if kindOf c = st.2.2 then (st.1, st.2.1 ++ [c], st.2.2) else (st.1 ++ runTk a b st.2.1 st.2.2, [c], kindOf c)
def RunOk (run : List Nat) (kd : String) : Prop := kd = "" ∨ (kd = "STRING" ∧ run ≠ [] ∧ ∀ c ∈ run, al c = true) ∨ (kd = "NUMBER" ∧ run ≠ [] ∧ ∀ c ∈ run, dg c = true)
theorem close_al {la ld : Int} {run rest : List Nat} {ks} (hn : run ≠ []) (ha : ∀ c ∈ run, al c = true) (hr : ∀ c ∈ rest.head?, al c = false) (h : Toks la ld rest ks) : Toks la ld (run ++ rest) (runTk la ld run "STRING" ++ ks) := by
  obtain ⟨e1, e2⟩ := take_pred ha hr
  cases run with
  | nil => exact absurd rfl hn
  | cons c r =>
    have hc := ha c (.head _)
    rw [List.cons_append] at e1 e2 ⊢
    unfold runTk
    rw [if_pos rfl]
    split
    · rename_i q
      have t := Toks.alY (la := la) (ld := ld) (c := c) (r := r ++ rest) (ks := ks) hc (by rw [e1]; exact q) (by rw [e2]; exact h)
      rw [e1] at t
      exact t
    · rename_i q
      exact .alN hc (by rw [e1]; omega) (by rw [e2]; exact h)
theorem close_dg {la ld : Int} {run rest : List Nat} {ks} (hn : run ≠ []) (ha : ∀ c ∈ run, dg c = true) (hr : ∀ c ∈ rest.head?, dg c = false) (h : Toks la ld rest ks) : Toks la ld (run ++ rest) (runTk la ld run "NUMBER" ++ ks) := by
  obtain ⟨e1, e2⟩ := take_pred ha hr
  cases run with
  | nil => exact absurd rfl hn
  | cons c r =>
    have hc := ha c (.head _)
    rw [List.cons_append] at e1 e2 ⊢
    unfold runTk
    rw [if_neg (by decide), if_pos rfl]
    split
    · rename_i q
      have t := Toks.dgY (la := la) (ld := ld) (c := c) (r := r ++ rest) (ks := ks) hc (by rw [e1]; exact q) (by rw [e2]; exact h)
      rw [e1] at t
      exact t
    · rename_i q
      exact .dgN hc (by rw [e1]; omega) (by rw [e2]; exact h)
theorem kind_al {c : Nat} : kindOf c = "STRING" ↔ al c = true := by
  unfold kindOf
  cases al c <;> cases dg c <;> decide
theorem kind_dg {c : Nat} : kindOf c = "NUMBER" ↔ dg c = true := by
  unfold kindOf
  cases h : al c with
  | true => rw [al_dg h]; decide
  | false => cases dg c <;> decide
theorem kind_ot {c : Nat} : kindOf c = "" ↔ other c = true := by
  unfold kindOf other
  cases al c <;> cases dg c <;> decide
theorem kind_all (c : Nat) : kindOf c = "STRING" ∨ kindOf c = "NUMBER" ∨ kindOf c = "" := by
  unfold kindOf
  cases al c <;> cases dg c <;> decide
theorem runOk_one (c : Nat) : RunOk [c] (kindOf c) := by
  rcases kind_all c with h | h | h
  · exact .inr (.inl ⟨h, by simp, fun d hd => by rw [List.mem_singleton.mp hd]; exact kind_al.mp h⟩)
  · exact .inr (.inr ⟨h, by simp, fun d hd => by rw [List.mem_singleton.mp hd]; exact kind_dg.mp h⟩)
  · exact .inl h
theorem runs_toks {la ld : Int} : ∀ (r : List Nat) (told : List (String × List Nat)) (run : List Nat) (kd : String), RunOk run kd →
    ∃ ks, ((r ++ [32]).foldl (runsStep la ld) (told, run, kd)).1 = told ++ ks ∧ Toks la ld ((if kd = "" then [] else run) ++ r) ks := by
  have k32 : kindOf 32 = "" := by decide
  intro r
  induction r with
  | nil =>
    intro told run kd hk
    rw [List.nil_append, List.foldl_cons, List.foldl_nil, List.append_nil]
    rcases hk with rfl | ⟨rfl, hn, ha⟩ | ⟨rfl, hn, ha⟩
    · exact ⟨[], by simp [runsStep, k32], .nil⟩
    · have t := close_al (la := la) (ld := ld) (rest := []) hn ha (fun _ h => nomatch h) .nil
      rw [List.append_nil, List.append_nil] at t
      exact ⟨runTk la ld run "STRING", by simp [runsStep, k32], by rw [if_neg (by decide)]; exact t⟩
    · have t := close_dg (la := la) (ld := ld) (rest := []) hn ha (fun _ h => nomatch h) .nil
      rw [List.append_nil, List.append_nil] at t
      exact ⟨runTk la ld run "NUMBER", by simp [runsStep, k32], by rw [if_neg (by decide)]; exact t⟩
  | cons c r ih =>
    intro told run kd hk
    rw [List.cons_append, List.foldl_cons]
    by_cases hc : kindOf c = kd
    · -- the run grows
      have e : runsStep la ld (told, run, kd) c = (told, run ++ [c], kd) := by unfold runsStep; rw [if_pos hc]
      rw [e]
      have hk' : RunOk (run ++ [c]) kd := by
        rcases hk with h | ⟨h, hn, ha⟩ | ⟨h, hn, ha⟩
        · exact .inl h
        · refine .inr (.inl ⟨h, by simp, fun d hd => ?_⟩)
          rcases List.mem_append.mp hd with hd | hd
          · exact ha d hd
          · rw [List.mem_singleton.mp hd]; exact kind_al.mp (hc.trans h)
        · refine .inr (.inr ⟨h, by simp, fun d hd => ?_⟩)
          rcases List.mem_append.mp hd with hd | hd
          · exact ha d hd
          · rw [List.mem_singleton.mp hd]; exact kind_dg.mp (hc.trans h)
      obtain ⟨ks, h1, h2⟩ := ih told (run ++ [c]) kd hk'
      refine ⟨ks, h1, ?_⟩
      by_cases h0 : kd = ""
      · rw [if_pos h0] at h2 ⊢
        exact .oth (kind_ot.mp (hc.trans h0)) h2
      · rw [if_neg h0] at h2 ⊢
        rw [List.append_assoc] at h2
        exact h2
    · have e : runsStep la ld (told, run, kd) c = (told ++ runTk la ld run kd, [c], kindOf c) := by unfold runsStep; rw [if_neg hc]
      rw [e]
      obtain ⟨ks, h1, h2⟩ := ih (told ++ runTk la ld run kd) [c] (kindOf c) (runOk_one c)
      have h3 : Toks la ld (c :: r) ks := by
        by_cases h0 : kindOf c = ""
        · rw [if_pos h0] at h2
          exact .oth (kind_ot.mp h0) h2
        · rw [if_neg h0] at h2
          exact h2
      refine ⟨runTk la ld run kd ++ ks, by rw [h1, List.append_assoc], ?_⟩
      rcases hk with rfl | ⟨rfl, hn, ha⟩ | ⟨rfl, hn, ha⟩
      · rw [if_pos rfl]
        exact h3
      · rw [if_neg (by decide)]
        exact close_al hn ha (fun d hd => by
          rw [show d = c from (Option.some.inj hd).symm]
          cases q : al c with
          | false => rfl
          | true => exact absurd (kind_al.mpr q) hc) h3
      · rw [if_neg (by decide)]
        exact close_dg hn ha (fun d hd => by
          rw [show d = c from (Option.some.inj hd).symm]
          cases q : dg c with
          | false => rfl
          | true => exact absurd (kind_dg.mpr q) hc) h3
theorem sign_low : ∀ c ∈ [97, 98, 90, 121, 81, 48, 49, 50, 51, 52, 53, 54, 55, 56, 57, 32, 10, 45, 46, 95, 9, 126, 34, 0, 127], Txt.contains (Str.ofString "abzyq") (Txt.lower (tx [c])) = al c ∧ Txt.contains (Str.ofString "0123456789") (tx [c]) = dg c ∧ (Txt.lower (tx [c])).length ≤ 3 := by decide +kernel
theorem Toks.det {la ld : Int} : ∀ n {l : List Nat} {ks ks' : List (String × List Nat)}, l.length ≤ n → Toks la ld l ks → Toks la ld l ks' → ks = ks' := by
  have oa : ∀ {c}, other c = true → al c = true → False := fun h1 h2 => by simp [other, h2] at h1
  have od : ∀ {c}, other c = true → dg c = true → False := fun h1 h2 => by simp [other, h2] at h1
  have ad : ∀ {c}, al c = true → dg c = true → False := fun h1 h2 => by rw [al_dg h1] at h2; cases h2
  intro n
  induction n with
  | zero =>
    intro l ks ks' hl h h'
    cases l with
    | nil => rw [h.none, h'.none]
    | cons c r => exact absurd hl (Nat.not_succ_le_zero _)
  | succ n ih =>
    intro l ks ks' hl h h'
    cases h with
    | nil => rw [h'.none]
    | oth a h =>
      have hr := Nat.le_of_succ_le_succ hl
      cases h' with
      | oth _ h' => exact ih hr h h'
      | alY b _ _ => exact (oa a b).elim
      | alN b _ _ => exact (oa a b).elim
      | dgY b _ _ => exact (od a b).elim
      | dgN b _ _ => exact (od a b).elim
    | alY a q h =>
      have hr := Nat.le_trans (drop_lt a) (Nat.le_of_succ_le_succ hl)
      cases h' with
      | oth b _ => exact (oa b a).elim
      | alY _ _ h' => rw [ih hr h h']
      | alN _ q' _ => omega
      | dgY b _ _ => exact (ad a b).elim
      | dgN b _ _ => exact (ad a b).elim
    | alN a q h =>
      have hr := Nat.le_trans (drop_lt a) (Nat.le_of_succ_le_succ hl)
      cases h' with
      | oth b _ => exact (oa b a).elim
      | alY _ q' _ => omega
      | alN _ _ h' => exact ih hr h h'
      | dgY b _ _ => exact (ad a b).elim
      | dgN b _ _ => exact (ad a b).elim
    | dgY a q h =>
      have hr := Nat.le_trans (drop_lt a) (Nat.le_of_succ_le_succ hl)
      cases h' with
      | oth b _ => exact (od b a).elim
      | alY b _ _ => exact (ad b a).elim
      | alN b _ _ => exact (ad b a).elim
      | dgY _ _ h' => rw [ih hr h h']
      | dgN _ q' _ => omega
    | dgN a q h =>
      have hr := Nat.le_trans (drop_lt a) (Nat.le_of_succ_le_succ hl)
      cases h' with
      | oth b _ => exact (od b a).elim
      | alY b _ _ => exact (ad b a).elim
      | alN b _ _ => exact (ad b a).elim
      | dgY _ q' _ => omega
      | dgN _ _ h' => exact ih hr h h'
end
section
theorem reset35 : True := by
  w_top off
  trivial
/-! ### the lines (local) -/
local macro_rules | `(tactic| k_in) => `(tactic| first | with_reducible assumption | exact Frag.In.keeps (by with_reducible assumption) (Fr.keep (by with_reducible assumption)) | exact Frag.In.keeps (by with_reducible assumption) (Fr.keep (by k_asm)))
local macro_rules | `(tactic| k_room) => `(tactic| ktr_room)
/- entry into a def whose ledger is a part of the caller's -/
local macro_rules | `(tactic| ktr_enter) => `(tactic| (refine' code_lx ?k1 ?k2 ?k3 ?k4 ?kO ?k5 ?kA ?kF ?kK ?k6 ?k7 ?k8 ?k9 ?kB ?_ ?c2 ?c3 ?c4 ?c5; (case kA => exact rfl); (case kF => exact rfl); (case kK => first | exact rfl | assumption); (case k1 => k_asm); (case k2 => k_asm); (case k3 => k_asm); (case k4 => k_asm); (case kO => assumption); (case k5 => k_asm); (case k6 => k_is); (case k7 => k_is); (case k8 => k_room); (case k9 => first | exact BindsTo.of_eq rfl | exact binds_K (by k_in) rfl (by k_is) rfl rfl rfl | fail "k_enter: no rule for these arguments"); (case c5 => decide); (case kB => exact locs rfl); (case c2 => exact rfl); (case c3 => exact rfl); (case c4 => exact rfl); k_whole; intro g' L' h' FG' F' N' B' X' T' l1; (try k_lt l1); (try dsimp only); (try k_lift B'); (try k_fold)))
/- apartness -/
local macro_rules | `(tactic| ktr_rel) => `(tactic| first | assumption | ((try simp only [List.cons_append, List.nil_append, List.append_nil]); repeat (first | exact LxOff.nil | refine LxOff.cons (by k_all) ?_)))
/- a dict of six written entries and a tail -/
local macro_rules | `(tactic| k_get) => `(tactic| first
  | (refine' get6_hit ?hm ?h; (case hm => assumption); (case h => k_get))
  | (refine' get6_miss ?hm ?n1 ?n2 ?h; (case hm => assumption); (case n1 => decide +kernel); (case n2 => decide +kernel); (case h => k_get))
  | (refine' get6_is ?hm ?h ?h2; (case hm => assumption); (case h => k_get); (case h2 => (intro h9; exact absurd (h9.symm.trans (by k_get)) (by nofun)))))
local macro_rules | `(tactic| k_put) => `(tactic| (refine' put6 ?hm ?h; (case hm => assumption); (case h => k_put)))
local macro_rules | `(tactic| walk_at "setAttr ref") => `(tactic| (k_here; k_dflt ((refine' set_dict ?k1 ?k2 ?k3 ?k4 ?k5 ?k6 ?k7 ?k8 ?k9 ?k10 ?k11 ?k12 ?k13 ?_; (case k1 => k_asm); (case k2 => k_asm); (case k3 => k_asm); (case k4 => k_inst); (case k5 => exact rfl); (case k6 => k_is); (case k7 => k_is); (case k8 => k_is); (case k9 => k_is); (case k10 => k_get); (case k11 => k_put); (case k12 => k_upd); (case k13 => first | exact Nat.le_of_ble_eq_true rfl | (have h9 := MoreOk.len (by assumption); simp only [List.length_cons]; omega)); k_whole; intro h' F' N'; (try k_sweep)))))
local macro_rules | `(tactic| walk_at "call builtin:list.extend") => `(tactic| (k_here; (with_reducible show wpAny _ _ (call (Value.builtin _) [Value.ref _, Value.str _ _]) _ _ _); k_dflt (first
  | (refine' lx_extend0 ?hh ?F ?N ?D ?_; (case hh => exact rfl); (case F => k_asm); (case N => k_asm); (case D => k_mem); intro h' tk' F' N'; (try k_sweep))
  | (refine' lx_extend1 ?hh ?F ?N ?U ?_; (case hh => exact rfl); (case F => k_asm); (case N => k_asm); (case U => k_updF); intro h' tk' u' c' F' N'; (try dsimp only at N'); (try k_sweep)))))
local macro_rules | `(tactic| walk_at "call type:list") => `(tactic| (k_here; (with_reducible show wpAny _ _ (call (Value.type _) [Value.str _ _]) _ _ _); k_dflt (first
  | (refine' lx_list0 ?hh ?F ?N ?_; (case hh => exact rfl); (case F => k_asm); (case N => k_asm); intro p' h' tk' c' F' N' l1; (try k_lt l1); (try k_sweep))
  | (refine' lx_list1 ?hh ?F ?N ?_; (case hh => exact rfl); (case F => k_asm); (case N => k_asm); intro p' h' tk' u' c' F' N' l1; (try k_lt l1); (try k_sweep)))))
local macro_rules | `(tactic| tb_rel) => `(tactic| (refine' cb_drop ?cN ?cS; (case cN => assumption); (case cS => (repeat (first | exact List.forall_mem_nil _ | refine List.forall_mem_cons.mpr ⟨by k_mem, ?_⟩)))))
def RunsI (mB : Str → Option Value) (lt : List Nat) (la ld : Int) (D : Nat) (i : Nat) (m₁ : Str → Option Value) (news₁ : List (Addr × Obj)) : Prop :=
  ∃ (es : List TkE) (run : List Nat) (kd : String) (tr tkd : Tok) (u1 u2 : Option Value) (cD : Nat),
    m₁ = (fun y => if y = Str.ofString "run" then some (.str (tx run) tr) else if y = Str.ofString "kind" then some (.str (Str.ofString kd) tkd) else if y = Str.ofString "now" then u1 else if y = Str.ofString "sign" then u2 else if y = Str.ofString "told" then some (.ref D) else mB y) ∧
    news₁ = (D, listOf (es.map TkE.val).toArray cD) :: es.map TkE.ob ∧ (lt.take i).foldl (runsStep la ld) ([], [], "") = (es.map TkE.tk, run, kd) ∧ (∀ p ∈ es.map TkE.ob, p.1 ≠ D) ∧ es.length ≤ i ∧ run.length ≤ i ∧ RunOk run kd
theorem Fr.told {h₀ h : Heap} {L : Addr} {m m' : Str → Option Value} (F : Fr h₀ L h m) (e : ∀ y, m y = m' y) : Fr h₀ L h m' := by
  have : m = m' := funext e
  rw [← this]; exact F
theorem Fr.pad2 {h₀ h : Heap} {L D : Addr} {mB : Str → Option Value} {t1 t2 : Tok} (F : Fr h₀ L h (fun y => if y = Str.ofString "told" then some (.ref D) else if y = Str.ofString "run" then some (.str (Str.ofString "") t1) else if y = Str.ofString "kind" then some (.str (Str.ofString "") t2) else mB y)) :
    Fr h₀ L h (fun y => if y = Str.ofString "run" then some (.str (tx []) t1) else if y = Str.ofString "kind" then some (.str (Str.ofString "") t2) else if y = Str.ofString "now" then mB (Str.ofString "now") else if y = Str.ofString "sign" then mB (Str.ofString "sign") else if y = Str.ofString "told" then some (.ref D) else mB y) := by
  have n1 : Str.ofString "run" ≠ Str.ofString "told" := by decide +kernel
  have n2 : Str.ofString "kind" ≠ Str.ofString "told" := by decide +kernel
  have n3 : Str.ofString "now" ≠ Str.ofString "told" := by decide +kernel
  have n4 : Str.ofString "sign" ≠ Str.ofString "told" := by decide +kernel
  refine Fr.told F fun y => ?_
  rw [← ofString_nil]
  by_cases h1 : y = Str.ofString "run"
  · rw [if_neg (fun h2 => n1 (h1.symm.trans h2)), if_pos h1, if_pos h1]
  · rw [if_neg h1, if_neg h1]
    by_cases h2 : y = Str.ofString "kind"
    · rw [if_neg (fun h3 => n2 (h2.symm.trans h3)), if_pos h2, if_pos h2]
    · rw [if_neg h2, if_neg h2]
      by_cases h3 : y = Str.ofString "now"
      · rw [if_pos h3, if_neg (fun h4 => n3 (h3.symm.trans h4)), h3]
      · rw [if_neg h3]
        by_cases h4 : y = Str.ofString "sign"
        · rw [if_pos h4, if_neg (fun h5 => n4 (h4.symm.trans h5)), h4]
        · rw [if_neg h4]
section
variable {g' h' : Heap} {L I D : Nat} {oI : Obj} {mB : Str → Option Value} {lt : List Nat} {la ld : Int} {i c : Nat} {es es' : List TkE} {run : List Nat} {kd : String} {t tr tkd : Tok} {b b' c1 c' a1 a1' a2' : Option Value} {cD : Nat} {s₁ : Shared} {Q : Flow → Shared → Prop} {tk : Nat}
theorem fold_next {st : List (String × List Nat) × List Nat × String} (hf : (lt.take i).foldl (runsStep la ld) ([], [], "") = st) (hc : lt[i]? = some c) : (lt.take (i + 1)).foldl (runsStep la ld) ([], [], "") = runsStep la ld st c := by
  rw [List.take_add_one, hc, List.foldl_append, hf]
  rfl
theorem runOk_more (hok : RunOk run kd) (hc : kindOf c = kd) : RunOk (run ++ [c]) kd := by
  rcases hok with h | ⟨h, hn, ha⟩ | ⟨h, hn, ha⟩
  · exact .inl h
  · refine .inr (.inl ⟨h, by simp, fun d hd => ?_⟩)
    rcases List.mem_append.mp hd with hd | hd
    · exact ha d hd
    · rw [List.mem_singleton.mp hd]; exact kind_al.mp (hc.trans h)
  · refine .inr (.inr ⟨h, by simp, fun d hd => ?_⟩)
    rcases List.mem_append.mp hd with hd | hd
    · exact ha d hd
    · rw [List.mem_singleton.mp hd]; exact kind_dg.mp (hc.trans h)
theorem runs_same (F : Fr g' L h' (fun y => if y = Str.ofString "run" then some (.str (tx run ++ tx [c]) t) else if y = Str.ofString "now" then b else if y = Str.ofString "sign" then c1 else if y = Str.ofString "run" then a1 else if y = Str.ofString "kind" then some (.str (Str.ofString kd) tkd) else if y = Str.ofString "now" then b' else if y = Str.ofString "sign" then c' else if y = Str.ofString "told" then some (.ref D) else mB y))
    (N : News g' L h' ((I, oI) :: (D, listOf (es.map TkE.val).toArray cD) :: es.map TkE.ob)) (h1 : AllNe I ((D, listOf (es.map TkE.val).toArray cD) :: es.map TkE.ob)) (hf : (lt.take i).foldl (runsStep la ld) ([], [], "") = (es.map TkE.tk, run, kd)) (hc : lt[i]? = some c) (hk : kindOf c = kd)
    (hD : ∀ p ∈ es.map TkE.ob, p.1 ≠ D) (hl : es.length ≤ i) (hr : run.length ≤ i) (hok : RunOk run kd) : LxTurn g' L I oI (RunsI mB lt la ld D (i + 1)) s₁ Q .next { s₁ with heap := h', toks := tk } := by
  have n1 : Str.ofString "now" ≠ Str.ofString "kind" := by decide +kernel
  have n2 : Str.ofString "sign" ≠ Str.ofString "kind" := by decide +kernel
  rw [tx_app] at F
  refine ⟨h', tk, _, _, rfl, Fr.told F (m' := fun y => if y = Str.ofString "run" then some (.str (tx (run ++ [c])) t) else if y = Str.ofString "kind" then some (.str (Str.ofString kd) tkd) else if y = Str.ofString "now" then b else if y = Str.ofString "sign" then c1 else if y = Str.ofString "told" then some (.ref D) else mB y) fun y => ?_, N, h1, es, run ++ [c], kd, t, tkd, b, c1, cD, rfl, rfl, ?_, hD, by omega, by rw [List.length_append]; simp; omega, runOk_more hok hk⟩
  · by_cases q1 : y = Str.ofString "run"
    · simp only [if_pos q1]
    · simp only [if_neg q1]
      by_cases q2 : y = Str.ofString "kind"
      · rw [if_neg (fun q => n1 (q.symm.trans q2)), if_neg (fun q => n2 (q.symm.trans q2))]
        simp only [if_pos q2]
      · simp only [if_neg q2]
        by_cases q3 : y = Str.ofString "now"
        · simp only [if_pos q3]
        · simp only [if_neg q3]
          by_cases q4 : y = Str.ofString "sign"
          · simp only [if_pos q4]
          · simp only [if_neg q4]
  · rw [fold_next hf hc]
    unfold runsStep
    rw [if_pos hk]
theorem runs_new {kc : String} (hkc : kindOf c = kc) (F : Fr g' L h' (fun y => if y = Str.ofString "run" then some (.str (Str.ofString "" ++ tx [c]) t) else if y = Str.ofString "run" then a1 else if y = Str.ofString "kind" then some (.str (Str.ofString kc) tr) else if y = Str.ofString "now" then b else if y = Str.ofString "sign" then c1 else if y = Str.ofString "run" then a1' else if y = Str.ofString "kind" then a2' else if y = Str.ofString "now" then b' else if y = Str.ofString "sign" then c' else if y = Str.ofString "told" then some (.ref D) else mB y))
    (N : News g' L h' ((I, oI) :: (D, listOf (es'.map TkE.val).toArray cD) :: es'.map TkE.ob)) (h1 : AllNe I ((D, listOf (es'.map TkE.val).toArray cD) :: es'.map TkE.ob)) (hf : (lt.take i).foldl (runsStep la ld) ([], [], "") = (es.map TkE.tk, run, kd)) (hc : lt[i]? = some c) (hk : kindOf c ≠ kd)
    (he : es'.map TkE.tk = es.map TkE.tk ++ runTk la ld run kd) (hD : ∀ p ∈ es'.map TkE.ob, p.1 ≠ D) (hl : es'.length ≤ i + 1) : LxTurn g' L I oI (RunsI mB lt la ld D (i + 1)) s₁ Q .next { s₁ with heap := h', toks := tk } := by
  subst hkc
  rw [empty_tx] at F
  refine ⟨h', tk, _, _, rfl, Fr.told F (m' := fun y => if y = Str.ofString "run" then some (.str (tx [c]) t) else if y = Str.ofString "kind" then some (.str (Str.ofString (kindOf c)) tr) else if y = Str.ofString "now" then b else if y = Str.ofString "sign" then c1 else if y = Str.ofString "told" then some (.ref D) else mB y) fun y => ?_, N, h1, es', [c], kindOf c, t, tr, b, c1, cD, rfl, rfl, ?_, hD, hl, by simp, runOk_one c⟩
  · by_cases q1 : y = Str.ofString "run"
    · simp only [if_pos q1]
    · simp only [if_neg q1]
      by_cases q2 : y = Str.ofString "kind"
      · simp only [if_pos q2]
      · simp only [if_neg q2]
        by_cases q3 : y = Str.ofString "now"
        · simp only [if_pos q3]
        · simp only [if_neg q3]
          by_cases q4 : y = Str.ofString "sign"
          · simp only [if_pos q4]
          · simp only [if_neg q4]
  · rw [fold_next hf hc]
    unfold runsStep
    rw [if_neg hk, he]
theorem runs_tok {kc : String} {X t0 : Nat} {oX : Obj} {k1 k2 : Tok} (hkc : kindOf c = kc) (F : Fr g' L h' (fun y => if y = Str.ofString "run" then some (.str (Str.ofString "" ++ tx [c]) t) else if y = Str.ofString "run" then a1 else if y = Str.ofString "kind" then some (.str (Str.ofString kc) tr) else if y = Str.ofString "now" then b else if y = Str.ofString "sign" then c1 else if y = Str.ofString "run" then a1' else if y = Str.ofString "kind" then a2' else if y = Str.ofString "now" then b' else if y = Str.ofString "sign" then c' else if y = Str.ofString "told" then some (.ref D) else mB y))
    (N : News g' L h' ((X, oX) :: (t0, tupOf [.str (Str.ofString kd) k1, .str (tx run) k2]) :: (I, oI) :: (D, listOf ((es.map TkE.val).toArray.push (.ref t0)) cD) :: es.map TkE.ob)) (hI1 : I ≠ D) (hI2 : AllNe I (es.map TkE.ob)) (hIt : I < t0 ∧ D < t0) (hf : (lt.take i).foldl (runsStep la ld) ([], [], "") = (es.map TkE.tk, run, kd)) (hc : lt[i]? = some c) (hk : kindOf c ≠ kd)
    (he : runTk la ld run kd = [(kd, run)]) (hD : ∀ p ∈ es.map TkE.ob, p.1 ≠ D) (hl : es.length ≤ i) : LxTurn g' L I oI (RunsI mB lt la ld D (i + 1)) s₁ Q .next { s₁ with heap := h', toks := tk } := by
  have eo : (es ++ [(⟨t0, kd, run, k1, k2⟩ : TkE)]).map TkE.ob = es.map TkE.ob ++ [(t0, tupOf [.str (Str.ofString kd) k1, .str (tx run) k2])] := by simp [TkE.ob]
  have ev : listOf ((es.map TkE.val).toArray.push (.ref t0)) cD = listOf (((es ++ [(⟨t0, kd, run, k1, k2⟩ : TkE)]).map TkE.val)).toArray cD := by simp [TkE.val]
  rw [ev] at N
  have hne : AllNe I ((D, listOf (((es ++ [(⟨t0, kd, run, k1, k2⟩ : TkE)]).map TkE.val)).toArray cD) :: (es ++ [(⟨t0, kd, run, k1, k2⟩ : TkE)]).map TkE.ob) := by
    refine ⟨hI1, ?_⟩
    rw [eo]
    exact allNe_snoc hI2 (Nat.ne_of_lt hIt.1)
  refine runs_new (es' := es ++ [⟨t0, kd, run, k1, k2⟩]) (kd := kd) (run := run) (es := es) hkc F (fun p hp => N p ?_) hne hf hc hk (by rw [he]; simp [TkE.tk]) (fun p hp => ?_) (by simp; omega)
  · rcases List.mem_cons.mp hp with h | hp
    · exact h ▸ .tail _ (.tail _ (.head _))
    rcases List.mem_cons.mp hp with h | hp
    · exact h ▸ .tail _ (.tail _ (.tail _ (.head _)))
    rw [eo] at hp
    rcases List.mem_append.mp hp with hp | hp
    · exact .tail _ (.tail _ (.tail _ (.tail _ hp)))
    · rw [List.mem_singleton.mp hp]; exact .tail _ (.head _)
  · rw [eo] at hp
    rcases List.mem_append.mp hp with hp | hp
    · exact hD p hp
    · rw [List.mem_singleton.mp hp]; exact Nat.ne_of_gt hIt.2
theorem runTk_yes_s (h : la ≤ (run.length : Int)) : runTk la ld run "STRING" = [("STRING", run)] := by unfold runTk; rw [if_pos rfl, if_pos h]
theorem runTk_no_s (h : (run.length : Int) < la) : runTk la ld run "STRING" = [] := by unfold runTk; rw [if_pos rfl, if_neg (by omega)]
theorem runTk_yes_n (h : ld ≤ (run.length : Int)) : runTk la ld run "NUMBER" = [("NUMBER", run)] := by unfold runTk; rw [if_neg (by decide), if_pos rfl, if_pos h]
theorem runTk_no_n (h : (run.length : Int) < ld) : runTk la ld run "NUMBER" = [] := by unfold runTk; rw [if_neg (by decide), if_pos rfl, if_neg (by omega)]
end
end
section
theorem reset36 : True := by
  w_top off
  trivial
/-! ### the lines (local) -/
local macro_rules | `(tactic| k_in) => `(tactic| first | with_reducible assumption | exact Frag.In.keeps (by with_reducible assumption) (Fr.keep (by with_reducible assumption)) | exact Frag.In.keeps (by with_reducible assumption) (Fr.keep (by k_asm)))
local macro_rules | `(tactic| k_room) => `(tactic| ktr_room)
/- entry into a def whose ledger is a part of the caller's -/
local macro_rules | `(tactic| ktr_enter) => `(tactic| (refine' code_lx ?k1 ?k2 ?k3 ?k4 ?kO ?k5 ?kA ?kF ?kK ?k6 ?k7 ?k8 ?k9 ?kB ?_ ?c2 ?c3 ?c4 ?c5; (case kA => exact rfl); (case kF => exact rfl); (case kK => first | exact rfl | assumption); (case k1 => k_asm); (case k2 => k_asm); (case k3 => k_asm); (case k4 => k_asm); (case kO => assumption); (case k5 => k_asm); (case k6 => k_is); (case k7 => k_is); (case k8 => k_room); (case k9 => first | exact BindsTo.of_eq rfl | exact binds_K (by k_in) rfl (by k_is) rfl rfl rfl | fail "k_enter: no rule for these arguments"); (case c5 => decide); (case kB => exact locs rfl); (case c2 => exact rfl); (case c3 => exact rfl); (case c4 => exact rfl); k_whole; intro g' L' h' FG' F' N' B' X' T' l1; (try k_lt l1); (try dsimp only); (try k_lift B'); (try k_fold)))
/- apartness -/
local macro_rules | `(tactic| ktr_rel) => `(tactic| first | assumption | ((try simp only [List.cons_append, List.nil_append, List.append_nil]); repeat (first | exact LxOff.nil | refine LxOff.cons (by k_all) ?_)))
/- a dict of six written entries and a tail -/
local macro_rules | `(tactic| k_get) => `(tactic| first
  | (refine' get6_hit ?hm ?h; (case hm => assumption); (case h => k_get))
  | (refine' get6_miss ?hm ?n1 ?n2 ?h; (case hm => assumption); (case n1 => decide +kernel); (case n2 => decide +kernel); (case h => k_get))
  | (refine' get6_is ?hm ?h ?h2; (case hm => assumption); (case h => k_get); (case h2 => (intro h9; exact absurd (h9.symm.trans (by k_get)) (by nofun)))))
local macro_rules | `(tactic| k_put) => `(tactic| (refine' put6 ?hm ?h; (case hm => assumption); (case h => k_put)))
local macro_rules | `(tactic| walk_at "setAttr ref") => `(tactic| (k_here; k_dflt ((refine' set_dict ?k1 ?k2 ?k3 ?k4 ?k5 ?k6 ?k7 ?k8 ?k9 ?k10 ?k11 ?k12 ?k13 ?_; (case k1 => k_asm); (case k2 => k_asm); (case k3 => k_asm); (case k4 => k_inst); (case k5 => exact rfl); (case k6 => k_is); (case k7 => k_is); (case k8 => k_is); (case k9 => k_is); (case k10 => k_get); (case k11 => k_put); (case k12 => k_upd); (case k13 => first | exact Nat.le_of_ble_eq_true rfl | (have h9 := MoreOk.len (by assumption); simp only [List.length_cons]; omega)); k_whole; intro h' F' N'; (try k_sweep)))))
local macro_rules | `(tactic| walk_at "call builtin:list.extend") => `(tactic| (k_here; (with_reducible show wpAny _ _ (call (Value.builtin _) [Value.ref _, Value.str _ _]) _ _ _); k_dflt (first
  | (refine' lx_extend0 ?hh ?F ?N ?D ?_; (case hh => exact rfl); (case F => k_asm); (case N => k_asm); (case D => k_mem); intro h' tk' F' N'; (try k_sweep))
  | (refine' lx_extend1 ?hh ?F ?N ?U ?_; (case hh => exact rfl); (case F => k_asm); (case N => k_asm); (case U => k_updF); intro h' tk' u' c' F' N'; (try dsimp only at N'); (try k_sweep)))))
local macro_rules | `(tactic| walk_at "call type:list") => `(tactic| (k_here; (with_reducible show wpAny _ _ (call (Value.type _) [Value.str _ _]) _ _ _); k_dflt (first
  | (refine' lx_list0 ?hh ?F ?N ?_; (case hh => exact rfl); (case F => k_asm); (case N => k_asm); intro p' h' tk' c' F' N' l1; (try k_lt l1); (try k_sweep))
  | (refine' lx_list1 ?hh ?F ?N ?_; (case hh => exact rfl); (case F => k_asm); (case N => k_asm); intro p' h' tk' u' c' F' N' l1; (try k_lt l1); (try k_sweep)))))
local macro_rules | `(tactic| tb_rel) => `(tactic| (refine' cb_drop ?cN ?cS; (case cN => assumption); (case cS => (repeat (first | exact List.forall_mem_nil _ | refine List.forall_mem_cons.mpr ⟨by k_mem, ?_⟩)))))
theorem lx_in {prog : Program} {w : World} {A : Around} {E : Value → Shared → Prop} {s : Shared} {x y : Str} {t u : Tok} {b : Bool} {Q : Value → Shared → Prop} (hb : Txt.contains x y = b) (h : Q (.bool b) s) : wpAny (model prog w) A (compareOp .In (.str y u) (.str x t)) Q E s :=
  SB.contains (by rw [hb]; exact h)
local macro_rules | `(tactic| k_all) => `(tactic| assumption)
local macro_rules | `(tactic| walk_at "compareOp In str str") => `(tactic| (k_here; (with_reducible show wpAny _ _ (compareOp CmpOp.In (Value.str _ _) (Value.str _ _)) _ _ _); k_dflt (refine' lx_in ?hb ?_; (case hb => assumption))))
local macro_rules | `(tactic| walk_at "compareOp In str") => `(tactic| (k_here; (with_reducible show wpAny _ _ (compareOp CmpOp.In (Value.str _ _) (Value.str _ _)) _ _ _); k_dflt (refine' lx_in ?hb ?_; (case hb => assumption))))
local macro_rules | `(tactic| walk_at "compareOp In") => `(tactic| (k_here; (with_reducible show wpAny _ _ (compareOp CmpOp.In (Value.str _ _) (Value.str _ _)) _ _ _); k_dflt (refine' lx_in ?hb ?_; (case hb => assumption))))
local macro_rules | `(tactic| walk_at "pyIter str") => `(tactic| (k_here; (with_reducible show wpAny _ _ (pyIter (Value.str _ _)) (fun it s₂ => LoopAtV _ _ _ _ _ _ _ _ _ it s₂) _ _); refine lx_hold ?_))
local macro_rules | `(tactic| walk_at "exec For") => `(tactic| (k_here; (rename Fr _ _ _ _ => lF'); (with_unfolding_all refine' For_invVF lF' ?k1 ?k2 ?_; (case k1 => exact rfl); (case k2 => exact rfl); k_whole)))
theorem al_of_dg {c : Nat} (h : dg c = true) : al c = false := by
  cases q : al c with
  | false => rfl
  | true => rw [al_dg q] at h; cases h
theorem runsC {prog : Program} {w : World} {p : Program} {loose : List Str} {mean : ExcName → Option Value} {mg mb : Str → Option Value}
    {dp un : Nat} {gd : Option (List Code)} {cn : Str} {cs : Scope} {a : Addr} {ccd : Value} {cl : List (Str × Addr)} {outer : List Env} {A₀ : Around} {base h₀ : Heap} {L : Addr} {m : Str → Option Value} {s : Shared} {Q E : Value → Shared → Prop}
    {l : List Nat} {tt t1 t2 : Tok} {la ld : Int} {pre post : List (Addr × Obj)}
    (B : Below A₀ base outer h₀) (F : Fr h₀ L s.heap m) (X : (hd.heap_39 w.params).In h₀) (N : News h₀ L s.heap (pre ++ ([] ++ post)))
    (Tp : Top p loose mean mg mb h₀) (hcs : cs.kind = .function) (hdp : dp + 4 < recursionLimit) (hun : un + 60 < cLine)
    (hoff : LxOff [] (pre ++ post)) (hside : (∀ c ∈ l, c ∈ [97, 98, 90, 121, 81, 48, 49, 50, 51, 52, 53, 54, 55, 56, 57, 32, 10, 45, 46, 95, 9, 126, 34, 0, 127]) ∧ (tx l).length ≤ 200)
    (hret : ∀ (D : Nat) (es : List TkE) c h' tk', Toks la ld l (es.map TkE.tk) → LxOff ((D, listOf (es.map TkE.val).toArray c) :: es.map TkE.ob) (pre ++ post) → (∀ p ∈ es.map TkE.ob, p.1 ≠ D) → Fr h₀ L h' m → News h₀ L h' (pre ++ (((D, listOf (es.map TkE.val).toArray c) :: es.map TkE.ob) ++ post)) → Q (.ref D) { s with heap := h', toks := tk' }) :
    wpAny (model prog w) (ktrTop dp un gd cn cs L a ccd cl outer) (call (.ref 717) [.str (tx l) tt, .int la t1, .int ld t2]) Q E s := by
  obtain ⟨hsg, hT⟩ := hside
  refine lx_call ?_
  k_dflt (refine' code_lx (binds := [(Str.ofString "text", .str (tx l) tt), (Str.ofString "least_letters", .int la t1), (Str.ofString "least_figures", .int ld t2)]) ?k1 ?k2 ?k3 ?k4 ?kO ?k5 ?kA ?kF ?kK ?k6 ?k7 ?k8 ?k9 ?kB ?_ ?c2 ?c3 ?c4 ?c5; (case kA => exact rfl); (case kF => exact rfl); (case kK => first | exact rfl | assumption); (case k1 => k_asm); (case k2 => k_asm); (case k3 => k_asm); (case k4 => k_asm); (case kO => assumption); (case k5 => k_asm); (case k6 => k_is); (case k7 => k_is); (case k8 => k_room); (case k9 => exact BindsTo.of_eq rfl); (case c5 => decide); (case kB => exact locs rfl); (case c2 => exact rfl); (case c3 => exact rfl); (case c4 => exact rfl); k_whole; intro g' L' h' FG' F' N' B' X' T' l1; (try dsimp only); (try k_lift B'); (try k_fold))
  k_steps
  refine LxHold.out ?_
  rename Fr g' L' _ _ => Fz
  rename News g' L' _ _ => Nz
  rw [ofString_sp, tx_app]
  refine lx_iter_str (RunsI _ (l ++ [32]) la ld _) rfl (Fr.pad2 Fz) (fun p hp => Nz p (.tail _ hp)) ⟨[], [], "", _, _, _, _, _, rfl, rfl, by rw [List.take_zero]; rfl, (fun _ h => nomatch h), Nat.le_refl _, Nat.le_refl _, .inl rfl⟩ ?_ ?_
  · intro I i c t m₁ news₁ h tk oI hi hJ hne hlt F1 N1
    obtain ⟨es, run, kd, tr, tkd, u1, u2, cD, rfl, rfl, hfold, hD, hlen, hrun, hok⟩ := hJ
    have hi' : i < l.length + 1 := by
      have := (List.getElem?_eq_some_iff.mp hi).1
      simpa using this
    have hT' : l.length ≤ 200 := by rw [tx_len] at hT; exact hT
    have hc25 : c ∈ [97, 98, 90, 121, 81, 48, 49, 50, 51, 52, 53, 54, 55, 56, 57, 32, 10, 45, 46, 95, 9, 126, 34, 0, 127] := by
      rcases List.mem_append.mp (List.mem_of_getElem? hi) with h | h
      · exact hsg c h
      · rw [List.mem_singleton.mp h]; decide
    obtain ⟨f1, f2, f3⟩ := sign_low c hc25
    have hRl : (tx run).length ≤ 201 := by rw [tx_len]; omega
    have hCl : (tx [c]).length ≤ 1 := by rw [tx_len]; exact Nat.le_refl _
    obtain ⟨hI1, hI2⟩ := hne
    dsimp only at hI1
    have htl := tx_len run
    have hok0 := hok
    rcases kind_all c with hk | hk | hk
    · rw [kind_al.mp hk] at f1
      rcases hok with rfl | ⟨rfl, hn, ha⟩ | ⟨rfl, hn, ha⟩
      · k_steps
        · rename News g' _ _ _ => NN
          exact runs_new hk (by assumption) (fun p hp => NN p (.tail _ hp)) ⟨hI1, hI2⟩ hfold hi (by rw [hk]; decide) (by simp [runTk]) hD (by omega)
      · k_steps
        · exact runs_same (by assumption) (by assumption) ⟨hI1, hI2⟩ hfold hi hk hD hlen hrun hok0
      · k_steps
        · rename News g' _ _ _ => NN
          exact runs_tok hk (by assumption) NN hI1 hI2 (by omega) hfold hi (by rw [hk]; decide) (runTk_yes_n (by omega)) hD hlen
        · rename News g' _ _ _ => NN
          exact runs_new hk (by assumption) (fun p hp => NN p (.tail _ hp)) ⟨hI1, hI2⟩ hfold hi (by rw [hk]; decide) (by rw [runTk_no_n (by omega)]; simp) hD (by omega)
    · rw [al_of_dg (kind_dg.mp hk)] at f1
      rw [kind_dg.mp hk] at f2
      rcases hok with rfl | ⟨rfl, hn, ha⟩ | ⟨rfl, hn, ha⟩
      · k_steps
        · rename News g' _ _ _ => NN
          exact runs_new hk (by assumption) (fun p hp => NN p (.tail _ hp)) ⟨hI1, hI2⟩ hfold hi (by rw [hk]; decide) (by simp [runTk]) hD (by omega)
      · k_steps
        · rename News g' _ _ _ => NN
          exact runs_tok hk (by assumption) NN hI1 hI2 (by omega) hfold hi (by rw [hk]; decide) (runTk_yes_s (by omega)) hD hlen
        · rename News g' _ _ _ => NN
          exact runs_new hk (by assumption) (fun p hp => NN p (.tail _ hp)) ⟨hI1, hI2⟩ hfold hi (by rw [hk]; decide) (by rw [runTk_no_s (by omega)]; simp) hD (by omega)
      · k_steps
        · exact runs_same (by assumption) (by assumption) ⟨hI1, hI2⟩ hfold hi hk hD hlen hrun hok0
    · have ho := kind_ot.mp hk
      simp only [other, Bool.and_eq_true, Bool.not_eq_true'] at ho
      rw [ho.1] at f1
      rw [ho.2] at f2
      rcases hok with rfl | ⟨rfl, hn, ha⟩ | ⟨rfl, hn, ha⟩
      · k_steps
        · exact runs_same (by assumption) (by assumption) ⟨hI1, hI2⟩ hfold hi hk hD hlen hrun hok0
      · k_steps
        · rename News g' _ _ _ => NN
          exact runs_tok hk (by assumption) NN hI1 hI2 (by omega) hfold hi (by rw [hk]; decide) (runTk_yes_s (by omega)) hD hlen
        · rename News g' _ _ _ => NN
          exact runs_new hk (by assumption) (fun p hp => NN p (.tail _ hp)) ⟨hI1, hI2⟩ hfold hi (by rw [hk]; decide) (by rw [runTk_no_s (by omega)]; simp) hD (by omega)
      · k_steps
        · rename News g' _ _ _ => NN
          exact runs_tok hk (by assumption) NN hI1 hI2 (by omega) hfold hi (by rw [hk]; decide) (runTk_yes_n (by omega)) hD hlen
        · rename News g' _ _ _ => NN
          exact runs_new hk (by assumption) (fun p hp => NN p (.tail _ hp)) ⟨hI1, hI2⟩ hfold hi (by rw [hk]; decide) (by rw [runTk_no_n (by omega)]; simp) hD (by omega)
  · intro m₁ news₁ h tk hJ F1 N1
    obtain ⟨es, run, kd, tr, tkd, u1, u2, cD, rfl, rfl, hfold, hD, hlen, hrun, hok⟩ := hJ
    k_steps
    rename News h₀ _ _ _ => kN
    rename Fr h₀ _ _ _ => kF
    intro lift
    have LL := lift _ _ kN N1
    obtain ⟨ks, e1, e2⟩ := runs_toks (la := la) (ld := ld) l [] [] "" (.inl rfl)
    rw [List.take_length] at hfold
    rw [hfold, List.nil_append] at e1
    rw [if_pos rfl, List.nil_append] at e2
    dsimp only at e1
    exact hret _ es cD _ _ (e1 ▸ e2) LL.2 hD kF LL.1
end
section
theorem reset37 : True := by
  w_top off
  trivial
/-! ### the lines (local) -/
local macro_rules | `(tactic| k_in) => `(tactic| first | with_reducible assumption | exact Frag.In.keeps (by with_reducible assumption) (Fr.keep (by with_reducible assumption)) | exact Frag.In.keeps (by with_reducible assumption) (Fr.keep (by k_asm)))
local macro_rules | `(tactic| k_room) => `(tactic| ktr_room)
/- entry into a def whose ledger is a part of the caller's -/
local macro_rules | `(tactic| ktr_enter) => `(tactic| (refine' code_lx ?k1 ?k2 ?k3 ?k4 ?kO ?k5 ?kA ?kF ?kK ?k6 ?k7 ?k8 ?k9 ?kB ?_ ?c2 ?c3 ?c4 ?c5; (case kA => exact rfl); (case kF => exact rfl); (case kK => first | exact rfl | assumption); (case k1 => k_asm); (case k2 => k_asm); (case k3 => k_asm); (case k4 => k_asm); (case kO => assumption); (case k5 => k_asm); (case k6 => k_is); (case k7 => k_is); (case k8 => k_room); (case k9 => first | exact BindsTo.of_eq rfl | exact binds_K (by k_in) rfl (by k_is) rfl rfl rfl | fail "k_enter: no rule for these arguments"); (case c5 => decide); (case kB => exact locs rfl); (case c2 => exact rfl); (case c3 => exact rfl); (case c4 => exact rfl); k_whole; intro g' L' h' FG' F' N' B' X' T' l1; (try k_lt l1); (try dsimp only); (try k_lift B'); (try k_fold)))
/- apartness -/
local macro_rules | `(tactic| ktr_rel) => `(tactic| first | assumption | ((try simp only [List.cons_append, List.nil_append, List.append_nil]); repeat (first | exact LxOff.nil | refine LxOff.cons (by k_all) ?_)))
/- a dict of six written entries and a tail -/
local macro_rules | `(tactic| k_get) => `(tactic| first
  | (refine' get6_hit ?hm ?h; (case hm => assumption); (case h => k_get))
  | (refine' get6_miss ?hm ?n1 ?n2 ?h; (case hm => assumption); (case n1 => decide +kernel); (case n2 => decide +kernel); (case h => k_get))
  | (refine' get6_is ?hm ?h ?h2; (case hm => assumption); (case h => k_get); (case h2 => (intro h9; exact absurd (h9.symm.trans (by k_get)) (by nofun)))))
local macro_rules | `(tactic| k_put) => `(tactic| (refine' put6 ?hm ?h; (case hm => assumption); (case h => k_put)))
local macro_rules | `(tactic| walk_at "setAttr ref") => `(tactic| (k_here; k_dflt ((refine' set_dict ?k1 ?k2 ?k3 ?k4 ?k5 ?k6 ?k7 ?k8 ?k9 ?k10 ?k11 ?k12 ?k13 ?_; (case k1 => k_asm); (case k2 => k_asm); (case k3 => k_asm); (case k4 => k_inst); (case k5 => exact rfl); (case k6 => k_is); (case k7 => k_is); (case k8 => k_is); (case k9 => k_is); (case k10 => k_get); (case k11 => k_put); (case k12 => k_upd); (case k13 => first | exact Nat.le_of_ble_eq_true rfl | (have h9 := MoreOk.len (by assumption); simp only [List.length_cons]; omega)); k_whole; intro h' F' N'; (try k_sweep)))))
local macro_rules | `(tactic| walk_at "call builtin:list.extend") => `(tactic| (k_here; (with_reducible show wpAny _ _ (call (Value.builtin _) [Value.ref _, Value.str _ _]) _ _ _); k_dflt (first
  | (refine' lx_extend0 ?hh ?F ?N ?D ?_; (case hh => exact rfl); (case F => k_asm); (case N => k_asm); (case D => k_mem); intro h' tk' F' N'; (try k_sweep))
  | (refine' lx_extend1 ?hh ?F ?N ?U ?_; (case hh => exact rfl); (case F => k_asm); (case N => k_asm); (case U => k_updF); intro h' tk' u' c' F' N'; (try dsimp only at N'); (try k_sweep)))))
local macro_rules | `(tactic| walk_at "call type:list") => `(tactic| (k_here; (with_reducible show wpAny _ _ (call (Value.type _) [Value.str _ _]) _ _ _); k_dflt (first
  | (refine' lx_list0 ?hh ?F ?N ?_; (case hh => exact rfl); (case F => k_asm); (case N => k_asm); intro p' h' tk' c' F' N' l1; (try k_lt l1); (try k_sweep))
  | (refine' lx_list1 ?hh ?F ?N ?_; (case hh => exact rfl); (case F => k_asm); (case N => k_asm); intro p' h' tk' u' c' F' N' l1; (try k_lt l1); (try k_sweep)))))
local macro_rules | `(tactic| tb_rel) => `(tactic| (refine' cb_drop ?cN ?cS; (case cN => assumption); (case cS => (repeat (first | exact List.forall_mem_nil _ | refine List.forall_mem_cons.mpr ⟨by k_mem, ?_⟩)))))
/-! ### lists of tokens, compared -/
def tkDat (k : String × List Nat) : PyData := .tuple [.str (Str.ofString k.1), .str (tx k.2)]
def TkOk (k : String × List Nat) : Prop := (k.1 = "STRING" ∨ k.1 = "NUMBER") ∧ ∀ c ∈ k.2, c < 128
theorem tkDat_can {k : String × List Nat} (h : TkOk k) : (tkDat k).canLay0 = true := by
  have h1 : PyData.strOk (Str.ofString k.1) = true := by
    rcases h.1 with e | e <;> rw [e] <;> decide +kernel
  have h2 : PyData.strOk (tx k.2) = true := by
    unfold PyData.strOk
    rw [Array.all_eq_true]
    intro i hi
    have : k.2.toArray[i] ∈ k.2 := by simp
    have h9 := h.2 _ this
    show decide (_ < _) = true
    exact decide_eq_true (Nat.lt_trans h9 (by decide))
  simp only [tkDat, PyData.canLay0, PyData.canLayAll0, h1, h2, Bool.and_true, Bool.and_self]
theorem tkDats_can : ∀ {ks : List (String × List Nat)}, (∀ k ∈ ks, TkOk k) → PyData.canLayAll0 (ks.map tkDat) = true
  | [], _ => rfl
  | k :: r, h => by
    rw [List.map_cons, PyData.canLayAll0, tkDat_can (h k (.head _)), tkDats_can fun q hq => h q (.tail _ hq)]
    rfl
theorem tkDats_depth : ∀ ks : List (String × List Nat), PyData.depthAll (ks.map tkDat) ≤ 1
  | [] => Nat.zero_le _
  | k :: r => by
    rw [List.map_cons, PyData.depthAll]
    have := tkDats_depth r
    have e : (tkDat k).depth = 1 := by simp [tkDat, PyData.depth, PyData.depthAll]
    omega
theorem tkDats_shaped {ks : List (String × List Nat)} (h : ∀ k ∈ ks, TkOk k) : SeqAt.shaped (.list (ks.map tkDat)) = true := by
  have h1 := tkDats_depth ks
  have h2 : (PyData.list (ks.map tkDat)).depth ≤ 64 := by rw [PyData.depth]; omega
  unfold SeqAt.shaped
  rw [PyData.canLay0, tkDats_can h, decide_eq_true h2]
  rfl
theorem drop_mem {pr : Nat → Bool} {l : List Nat} {c : Nat} (h : c ∈ l.dropWhile pr) : c ∈ l := (List.dropWhile_sublist pr).subset h
theorem take_mem {pr : Nat → Bool} {l : List Nat} {c : Nat} (h : c ∈ l.takeWhile pr) : c ∈ l := (List.takeWhile_sublist pr).subset h
theorem Toks.ok {la ld : Int} {l : List Nat} {ks : List (String × List Nat)} (T : Toks la ld l ks) : (∀ c ∈ l, c < 128) → ∀ k ∈ ks, TkOk k := by
  induction T with
  | nil => intro _ k hk; cases hk
  | oth _ _ ih => exact fun h => ih fun c hc => h c (.tail _ hc)
  | alY _ _ _ ih =>
    intro h k hk
    rcases List.mem_cons.mp hk with rfl | hk
    · exact ⟨.inl rfl, fun c hc => h c (take_mem hc)⟩
    · exact ih (fun c hc => h c (drop_mem hc)) k hk
  | alN _ _ _ ih => exact fun h => ih fun c hc => h c (drop_mem hc)
  | dgY _ _ _ ih =>
    intro h k hk
    rcases List.mem_cons.mp hk with rfl | hk
    · exact ⟨.inr rfl, fun c hc => h c (take_mem hc)⟩
    · exact ih (fun c hc => h c (drop_mem hc)) k hk
  | dgN _ _ _ ih => exact fun h => ih fun c hc => h c (drop_mem hc)
theorem reads_es {h : Heap} : ∀ {es : List TkE}, (∀ e ∈ es, h.get? (TkE.ob e).1 = some (TkE.ob e).2) → ∃ as, ReadsAll h (es.map TkE.val) ((es.map TkE.tk).map tkDat) as
  | [], _ => ⟨_, .nil⟩
  | e :: r, H => by
    obtain ⟨as, hr⟩ := reads_es fun q hq => H q (.tail _ hq)
    exact ⟨_, .cons (.tuple (H e (.head _)) rfl rfl (.cons (.str _ _) (.cons (.str _ _) .nil))) hr⟩
theorem reads_tks {h₀ h : Heap} {L S c : Nat} {es : List TkE} {ks : List (String × List Nat)} {news : List (Addr × Obj)} (N : News h₀ L h news) (hS : (S, listOf (es.map TkE.val).toArray c) ∈ news) (he : ∀ p ∈ es.map TkE.ob, p ∈ news) (hk : es.map TkE.tk = ks) :
    ∃ as, Reads h (.ref S) (.list (ks.map tkDat)) as := by
  obtain ⟨as, hr⟩ := reads_es (h := h) (es := es) fun e hh => (N _ (he _ (List.mem_map_of_mem hh))).1
  rw [hk] at hr
  exact ⟨_, .list (N _ hS).1 rfl rfl hr⟩
section
variable {prog : Program} {w : World} {A : Around} {E : Value → Shared → Prop} {s : Shared} {a b : Value} {as bs : List Addr} {ks : List (String × List Nat)} {Q : Value → Shared → Prop}
theorem lx_ne_tks (ra : ∃ as, Reads s.heap a (.list (ks.map tkDat)) as) (rb : ∃ bs, Reads s.heap b (.list (ks.map tkDat)) bs) (h : ∀ k ∈ ks, TkOk k) (hu : A.units + 64 < cLine) (hQ : Q (.bool false) s) :
    wpAny (model prog w) A (compareOp .NotEq a b) Q E s := by
  obtain ⟨as, ra⟩ := ra
  obtain ⟨bs, rb⟩ := rb
  refine ne_dataH ra rb (tkDats_shaped h) (tkDats_shaped h) hu ?_
  rw [SeqAt.eqv_refl _ (by rw [PyData.canLay0]; exact tkDats_can h)]
  exact hQ
end
/-! ### a body in two parts -/
theorem lx_execs_two {env : Env} : ∀ (n : Nat) (body : List Stmt), execs body env = (execs (body.take n) env >>= fun f => match f with | .next => execs (body.drop n) env | f => pure f)
  | 0, body => rfl
  | n + 1, [] => rfl
  | n + 1, st :: body => by
    show _ = (execs (st :: body.take n) env >>= fun f => match f with | .next => execs (body.drop n) env | f => pure f)
    rw [execs_cons, execs_cons, Sem.bind_eq_wrap', Sem.bind_eq_wrap', Sem.bind_eq_wrap', Sem.wrap_wrap]
    refine Sem.wrap_congr _ _ _ (fun f => ?_) (fun _ => rfl)
    cases f with
    | next => dsimp only; rw [lx_execs_two n body, Sem.bind_eq_wrap']
    | _ => rfl
theorem lx_cut {M : Model} {A : Around} {env : Env} {Q : Flow → Shared → Prop} {E : Value → Shared → Prop} {body : List Stmt} {s : Shared} (n : Nat) (P : Shared → Prop)
    (h1 : wpAny M A (execs (body.take n) env) (fun fl s' => match fl with | .next => P s' | f => Q f s') E s) (h2 : ∀ s', P s' → wpAny M A (execs (body.drop n) env) Q E s') : wpAny M A (execs body env) Q E s := by
  rw [lx_execs_two n body]
  refine wpAny_bind (wpAny_mono h1 (fun fl s' h => ?_) fun _ _ h => h)
  cases fl with
  | next => exact h2 s' h
  | _ => exact wpAny_pure h
/-! ### the text's encode -/
theorem lx_m_encode {M : Model} {A : Around} {E : Value → Shared → Prop} {s : Shared} {x : Str} {t : Tok} {pl : Sem Bool} {Q : Value × List Value → Shared → Prop} (h : Q (.builtin "str.encode", [.str x t]) s) : wpAny M A (getMethod (.str x t) "encode" pl) Q E s := by
  exact GM.of (.str x t) (show s.TypeIs (.str x t) "str" from rfl) PySem.F.slot_str_encode PySem.F.type_str_encode GM.noRef h
theorem sign_lt {c : Nat} (h : Sign c) : c < 128 := by
  have k : ∀ c ∈ [97, 98, 90, 121, 81, 48, 49, 50, 51, 52, 53, 54, 55, 56, 57, 32, 10, 45, 46, 95, 9, 126, 34, 0, 127], c < 128 := by decide
  unfold Sign PoolL PoolF PoolO at h
  refine k c ?_
  simp only [List.mem_cons, List.not_mem_nil, or_false] at h ⊢
  omega
theorem sign_in {c : Nat} (h : Sign c) : c ∈ [97, 98, 90, 121, 81, 48, 49, 50, 51, 52, 53, 54, 55, 56, 57, 32, 10, 45, 46, 95, 9, 126, 34, 0, 127] := by
  unfold Sign PoolL PoolF PoolO at h
  simp only [List.mem_cons, List.not_mem_nil, or_false] at h ⊢
  omega
theorem textC2 {prog : Program} {w : World} {p : Program} {loose : List Str} {mean : ExcName → Option Value} {mg mb : Str → Option Value}
    {dp un : Nat} {gd : Option (List Code)} {cn : Str} {cs : Scope} {a : Addr} {ccd : Value} {cl : List (Str × Addr)} {outer : List Env} {A₀ : Around} {base h₀ : Heap} {L : Addr} {m : Str → Option Value} {s : Shared} {Q E : Value → Shared → Prop}
    {sl : Nat} {vs : List Value} {ns : List Int} {rest : List (Addr × Obj)}
    (B : Below A₀ base outer h₀) (F : Fr h₀ L s.heap m) (X : (hd.heap_39 w.params).In h₀) (N : News h₀ L s.heap rest)
    (Tp : Top p loose mean mg mb h₀) (hcs : cs.kind = .function) (hdp : dp + 10 < recursionLimit) (hun : un + 120 < cLine)
    (hside : h₀.IsList sl vs.toArray ∧ IntsAre vs ns ∧ ns.length ≤ 63)
    (hret : ∀ (c : Nat) (r : List Nat) t h' tk', (∀ d ∈ c :: r, d ∈ [97, 98, 90, 121, 81, 48, 49, 50, 51, 52, 53, 54, 55, 56, 57, 32, 10, 45, 46, 95, 9, 126, 34, 0, 127]) → (∀ d ∈ c :: r, d < 128) → (c :: r).length ≤ 100 → (tx (c :: r)).length ≤ 100 → Fr h₀ L h' m → News h₀ L h' rest → Q (.str (tx (c :: r)) t) { s with heap := h', toks := tk' }) :
    wpAny (model prog w) (ktrTop dp un gd cn cs L a ccd cl outer) (call (.ref 710) [.ref sl]) Q E s := by
  refine textC B F X N Tp hcs hdp hun hside fun l t h' tk' h1 h2 h3 F' N' => ?_
  cases l with
  | nil => exact absurd h2 (by decide)
  | cons c r => exact hret c r t h' tk' (fun d hd => sign_in (h1 d hd)) (fun d hd => sign_lt (h1 d hd)) h3 (by rw [tx_len]; exact h3) F' N'
/-! ### the law lays the two least sizes onto its lexer -/
section
variable {prog : Program} {w : World} {A : Around} {E : Value → Shared → Prop} {s : Shared} {x dx L f q nE : Nat} {h₀ : Heap} {m : Str → Option Value} {news news' : List (Addr × Obj)} {v v1 st : Value} {eof : Bool} {kf kd kq ks kc ke k1 : Tok} {Q : Unit → Shared → Prop}
theorem lx_set_a (F : Fr h₀ L s.heap m) (X : (hd.heap_39 w.params).In h₀) (N : News h₀ L s.heap news) (hx : (x, instObj 690 dx) ∈ news)
    (U : Upd dx (lexObj w ⟨kf, kd, kq, ks, kc, ke, nE, []⟩ f q st eof) (lexObj w ⟨kf, kd, kq, ks, kc, ke, nE + 1, [ent w "minalpha" (s.toks + 1) v]⟩ f q st eof) news news')
    (h : ∀ h', Fr h₀ L h' m → News h₀ L h' news' → Q () { s with heap := h', toks := s.toks + 2 }) : wpAny (model prog w) A (setAttr (.ref x) (Str.ofString "minalpha") v) Q E s := by
  have hdx : (dx, lexObj w ⟨kf, kd, kq, ks, kc, ke, nE, []⟩ f q st eof) ∈ news := by
    obtain ⟨pre, post, e, e2, a, b⟩ := U.split
    rw [e]; simp
  exact set_dict F X N (InstAt.of_news N hx hdx) rfl (by k_is) (by k_is) (by k_is) (by k_is) (by kernel_rfl) (by kernel_rfl) U (Nat.le_of_ble_eq_true rfl) h
theorem lx_set_b (F : Fr h₀ L s.heap m) (X : (hd.heap_39 w.params).In h₀) (N : News h₀ L s.heap news) (hx : (x, instObj 690 dx) ∈ news)
    (U : Upd dx (lexObj w ⟨kf, kd, kq, ks, kc, ke, nE, [ent w "minalpha" k1 v1]⟩ f q st eof) (lexObj w ⟨kf, kd, kq, ks, kc, ke, nE + 1, [ent w "minalpha" k1 v1, ent w "mindigits" (s.toks + 1) v]⟩ f q st eof) news news')
    (h : ∀ h', Fr h₀ L h' m → News h₀ L h' news' → Q () { s with heap := h', toks := s.toks + 2 }) : wpAny (model prog w) A (setAttr (.ref x) (Str.ofString "mindigits") v) Q E s := by
  have hdx : (dx, lexObj w ⟨kf, kd, kq, ks, kc, ke, nE, [ent w "minalpha" k1 v1]⟩ f q st eof) ∈ news := by
    obtain ⟨pre, post, e, e2, a, b⟩ := U.split
    rw [e]; simp
  exact set_dict F X N (InstAt.of_news N hx hdx) rfl (by k_is) (by k_is) (by k_is) (by k_is) (by kernel_rfl) (by kernel_rfl) U (Nat.le_of_ble_eq_true rfl) h
end
end
section
theorem reset38 : True := by
  w_top off
  trivial
/-! ### the lines (local) -/
local macro_rules | `(tactic| k_in) => `(tactic| first | with_reducible assumption | exact Frag.In.keeps (by with_reducible assumption) (Fr.keep (by with_reducible assumption)) | exact Frag.In.keeps (by with_reducible assumption) (Fr.keep (by k_asm)))
local macro_rules | `(tactic| k_room) => `(tactic| ktr_room)
/- entry into a def whose ledger is a part of the caller's -/
local macro_rules | `(tactic| ktr_enter) => `(tactic| (refine' code_lx ?k1 ?k2 ?k3 ?k4 ?kO ?k5 ?kA ?kF ?kK ?k6 ?k7 ?k8 ?k9 ?kB ?_ ?c2 ?c3 ?c4 ?c5; (case kA => exact rfl); (case kF => exact rfl); (case kK => first | exact rfl | assumption); (case k1 => k_asm); (case k2 => k_asm); (case k3 => k_asm); (case k4 => k_asm); (case kO => assumption); (case k5 => k_asm); (case k6 => k_is); (case k7 => k_is); (case k8 => k_room); (case k9 => first | exact BindsTo.of_eq rfl | exact binds_K (by k_in) rfl (by k_is) rfl rfl rfl | fail "k_enter: no rule for these arguments"); (case c5 => decide); (case kB => exact locs rfl); (case c2 => exact rfl); (case c3 => exact rfl); (case c4 => exact rfl); k_whole; intro g' L' h' FG' F' N' B' X' T' l1; (try k_lt l1); (try dsimp only); (try k_lift B'); (try k_fold)))
/- apartness -/
local macro_rules | `(tactic| ktr_rel) => `(tactic| first | assumption | ((try simp only [List.cons_append, List.nil_append, List.append_nil]); repeat (first | exact LxOff.nil | refine LxOff.cons (by k_all) ?_)))
/- a dict of six written entries and a tail -/
local macro_rules | `(tactic| k_get) => `(tactic| first
  | (refine' get6_hit ?hm ?h; (case hm => assumption); (case h => k_get))
  | (refine' get6_miss ?hm ?n1 ?n2 ?h; (case hm => assumption); (case n1 => decide +kernel); (case n2 => decide +kernel); (case h => k_get))
  | (refine' get6_is ?hm ?h ?h2; (case hm => assumption); (case h => k_get); (case h2 => (intro h9; exact absurd (h9.symm.trans (by k_get)) (by nofun)))))
local macro_rules | `(tactic| k_put) => `(tactic| (refine' put6 ?hm ?h; (case hm => assumption); (case h => k_put)))
local macro_rules | `(tactic| walk_at "setAttr ref") => `(tactic| (k_here; k_dflt ((refine' set_dict ?k1 ?k2 ?k3 ?k4 ?k5 ?k6 ?k7 ?k8 ?k9 ?k10 ?k11 ?k12 ?k13 ?_; (case k1 => k_asm); (case k2 => k_asm); (case k3 => k_asm); (case k4 => k_inst); (case k5 => exact rfl); (case k6 => k_is); (case k7 => k_is); (case k8 => k_is); (case k9 => k_is); (case k10 => k_get); (case k11 => k_put); (case k12 => k_upd); (case k13 => first | exact Nat.le_of_ble_eq_true rfl | (have h9 := MoreOk.len (by assumption); simp only [List.length_cons]; omega)); k_whole; intro h' F' N'; (try k_sweep)))))
local macro_rules | `(tactic| walk_at "call builtin:list.extend") => `(tactic| (k_here; (with_reducible show wpAny _ _ (call (Value.builtin _) [Value.ref _, Value.str _ _]) _ _ _); k_dflt (first
  | (refine' lx_extend0 ?hh ?F ?N ?D ?_; (case hh => exact rfl); (case F => k_asm); (case N => k_asm); (case D => k_mem); intro h' tk' F' N'; (try k_sweep))
  | (refine' lx_extend1 ?hh ?F ?N ?U ?_; (case hh => exact rfl); (case F => k_asm); (case N => k_asm); (case U => k_updF); intro h' tk' u' c' F' N'; (try dsimp only at N'); (try k_sweep)))))
local macro_rules | `(tactic| walk_at "call type:list") => `(tactic| (k_here; (with_reducible show wpAny _ _ (call (Value.type _) [Value.str _ _]) _ _ _); k_dflt (first
  | (refine' lx_list0 ?hh ?F ?N ?_; (case hh => exact rfl); (case F => k_asm); (case N => k_asm); intro p' h' tk' c' F' N' l1; (try k_lt l1); (try k_sweep))
  | (refine' lx_list1 ?hh ?F ?N ?_; (case hh => exact rfl); (case F => k_asm); (case N => k_asm); intro p' h' tk' u' c' F' N' l1; (try k_lt l1); (try k_sweep)))))
local macro_rules | `(tactic| tb_rel) => `(tactic| (refine' cb_drop ?cN ?cS; (case cN => assumption); (case cS => (repeat (first | exact List.forall_mem_nil _ | refine List.forall_mem_cons.mpr ⟨by k_mem, ?_⟩)))))
/-! ### the contracts as the law uses them: all but the lexer's own objects is let go -/
def Six (w : World) (x dx f df q ms0 : Nat) (y : LexT) (z : SioT) (l : List Nat) (pos : Nat) (tp : Tok) (qs : List Value) (cq : Nat) (eof : Bool) : List (Addr × Obj) :=
  [(x, instObj 690 dx), (dx, lexObj w y f q (.ref ms0) eof), (f, instObj 569 df), (df, sioObj w z l pos tp), (q, listOf qs.toArray cq), (ms0, methodObj (.ref 666) (.ref x))]
theorem LxOff.none {led : List (Addr × Obj)} : LxOff led [] := fun _ _ _ h => nomatch h
theorem News.part {h₀ h : Heap} {L : Addr} {news news' : List (Addr × Obj)} (N : News h₀ L h news) (hm : ∀ p ∈ news', p ∈ news) : News h₀ L h news' := fun p hp => N p (hm p hp)
theorem six_mem {news : List (Addr × Obj)} {a b c d e f : Addr × Obj} (h1 : a ∈ news) (h2 : b ∈ news) (h3 : c ∈ news) (h4 : d ∈ news) (h5 : e ∈ news) (h6 : f ∈ news) : ∀ p ∈ [a, b, c, d, e, f], p ∈ news := fun p hp => by
  simp only [List.mem_cons, List.not_mem_nil, or_false] at hp
  rcases hp with rfl | rfl | rfl | rfl | rfl | rfl <;> assumption
theorem lxParseL {prog : Program} {w : World} {p : Program} {loose : List Str} {mean : ExcName → Option Value} {mg mb : Str → Option Value}
    {dp un : Nat} {gd : Option (List Code)} {cn : Str} {cs : Scope} {a : Addr} {ccd : Value} {cl : List (Str × Addr)} {outer : List Env} {A₀ : Around} {base h₀ : Heap} {L : Addr} {m : Str → Option Value} {s : Shared} {Q E : Value → Shared → Prop}
    {x dx f df q cq : Nat} {kf kd kq kt kc ke : Tok} {nE : Nat} {more : List DictEntry} {ms0 : Nat} {z : SioT} {tp : Tok} {l : List Nat} {la ld : Int} {news : List (Addr × Obj)}
    (B : Below A₀ base outer h₀) (F : Fr h₀ L s.heap m) (X : (hd.heap_39 w.params).In h₀) (N : News h₀ L s.heap news)
    (Tp : Top p loose mean mg mb h₀) (hcs : cs.kind = .function) (hdp : dp + 16 < recursionLimit) (hun : un + 200 < cLine)
    (m1 : (x, instObj 690 dx) ∈ news) (m2 : (dx, lexObj w ⟨kf, kd, kq, kt, kc, ke, nE, more⟩ f q (.ref ms0) false) ∈ news) (m3 : (f, instObj 569 df) ∈ news) (m4 : (df, sioObj w z l 0 tp) ∈ news) (m5 : (q, listOf #[] cq) ∈ news) (m6 : (ms0, methodObj (.ref 666) (.ref x)) ∈ news)
    (hmi : MoreIs w more la ld) (hside : dx < x ∧ x < df ∧ df < f ∧ f < q ∧ (tx l).length ≤ 100 ∧ (∀ c ∈ l, c < 128) ∧ l.length ≤ 100 ∧ q < ms0)
    (hret : ∀ (ks : List (String × List Nat)) (G : Nat) h' tk' gens', Toks la ld l ks → (∀ k ∈ ks, TkOk k) → ks.length ≤ 1000 → Fr h₀ L h' m → News h₀ L h' [] → LxGenAt prog w dp un gd cn cs a ccd cl outer h₀ L m x [] [] ks s.gens gens' G h' → Q (.ref G) { s with heap := h', toks := tk', gens := gens' }) :
    wpAny (model prog w) (ktrTop dp un gd cn cs L a ccd cl outer) (call (.ref 608) [.ref x]) Q E s := by
  obtain ⟨h1, h2, h3, h4, hT, hasc, hl, hms⟩ := hside
  obtain ⟨ks, htk⟩ := toks_ex la ld l.length l (Nat.le_refl _)
  refine lxParse (pre := []) (post := []) (qs := []) (pos := 0) (rem := l) (y := ⟨kf, kd, kq, kt, kc, ke, nE, more⟩) B F X (News.part N (six_mem m1 m2 m3 m4 m5 m6)) Tp hcs hdp hun .none ⟨h1, h2, h3, h4, hmi.ok, by omega, by omega, .nil rfl, hmi, hasc, by omega, hms, htk⟩ ?_
  intro G h' tk' gens' F' N' GA
  exact hret ks G h' tk' gens' htk (htk.ok hasc) (Toks.len 1000 (by omega) htk) F' N' GA
theorem runsL {prog : Program} {w : World} {p : Program} {loose : List Str} {mean : ExcName → Option Value} {mg mb : Str → Option Value}
    {dp un : Nat} {gd : Option (List Code)} {cn : Str} {cs : Scope} {a : Addr} {ccd : Value} {cl : List (Str × Addr)} {outer : List Env} {A₀ : Around} {base h₀ : Heap} {L : Addr} {m : Str → Option Value} {s : Shared} {Q E : Value → Shared → Prop}
    {l : List Nat} {tt t1 t2 : Tok} {la ld : Int} {news : List (Addr × Obj)} {ks : List (String × List Nat)}
    (B : Below A₀ base outer h₀) (F : Fr h₀ L s.heap m) (X : (hd.heap_39 w.params).In h₀) (N : News h₀ L s.heap news)
    (Tp : Top p loose mean mg mb h₀) (hcs : cs.kind = .function) (hdp : dp + 4 < recursionLimit) (hun : un + 60 < cLine)
    (hside : (∀ c ∈ l, c ∈ [97, 98, 90, 121, 81, 48, 49, 50, 51, 52, 53, 54, 55, 56, 57, 32, 10, 45, 46, 95, 9, 126, 34, 0, 127]) ∧ (tx l).length ≤ 100) (hk : Toks la ld l ks)
    (hret : ∀ (D : Nat) (es : List TkE) c h' tk', es.map TkE.tk = ks → Fr h₀ L h' m → News h₀ L h' ((D, listOf (es.map TkE.val).toArray c) :: (es.map TkE.ob ++ news)) → Q (.ref D) { s with heap := h', toks := tk' }) :
    wpAny (model prog w) (ktrTop dp un gd cn cs L a ccd cl outer) (call (.ref 717) [.str (tx l) tt, .int la t1, .int ld t2]) Q E s := by
  refine runsC (pre := []) (post := news) B F X N Tp hcs hdp hun .nil ⟨hside.1, Nat.le_trans hside.2 (by decide)⟩ ?_
  intro D es c h' tk' ht _ _ F' N'
  exact hret D es c h' tk' (Toks.det l.length (Nat.le_refl _) ht hk) F' N'
section
variable {prog : Program} {w : World} {A : Around} {E : Value → Shared → Prop} {s : Shared} {h₀ : Heap} {L : Nat} {m : Str → Option Value} {x dx f df q cq : Nat} {kf kd kq kt kc ke : Tok} {nE ms0 : Nat} {z : SioT} {tp : Tok} {l : List Nat} {news : List (Addr × Obj)} {v v1 : Value} {k1 : Tok} {Q : Unit → Shared → Prop}
theorem lx_set_aL (F : Fr h₀ L s.heap m) (X : (hd.heap_39 w.params).In h₀) (N : News h₀ L s.heap news)
    (m1 : (x, instObj 690 dx) ∈ news) (m2 : (dx, lexObj w ⟨kf, kd, kq, kt, kc, ke, nE, []⟩ f q (.ref ms0) false) ∈ news) (m3 : (f, instObj 569 df) ∈ news) (m4 : (df, sioObj w z l 0 tp) ∈ news) (m5 : (q, listOf #[] cq) ∈ news) (m6 : (ms0, methodObj (.ref 666) (.ref x)) ∈ news)
    (hside : dx < x ∧ x < df ∧ df < f ∧ f < q ∧ q < ms0)
    (hret : ∀ h' (k : Tok) (nE' : Nat) tk', Fr h₀ L h' m → News h₀ L h' [(x, instObj 690 dx), (dx, lexObj w ⟨kf, kd, kq, kt, kc, ke, nE', [ent w "minalpha" k v]⟩ f q (.ref ms0) false), (f, instObj 569 df), (df, sioObj w z l 0 tp), (q, listOf #[] cq), (ms0, methodObj (.ref 666) (.ref x))] → Q () { s with heap := h', toks := tk' }) : wpAny (model prog w) A (setAttr (.ref x) (Str.ofString "minalpha") v) Q E s := by
  obtain ⟨h1, h2, h3, h4, h5⟩ := hside
  refine lx_set_a F X (News.part N (six_mem m1 m2 m3 m4 m5 m6)) (.head _) (.tail (Nat.ne_of_gt h1) (.head fun p hp => ?_)) fun h' F' N' => hret h' _ _ _ F' N'
  simp only [List.mem_cons, List.not_mem_nil, or_false] at hp
  rcases hp with rfl | rfl | rfl | rfl <;> exact Nat.ne_of_gt (by omega)
theorem lx_set_bL (F : Fr h₀ L s.heap m) (X : (hd.heap_39 w.params).In h₀) (N : News h₀ L s.heap news)
    (m1 : (x, instObj 690 dx) ∈ news) (m2 : (dx, lexObj w ⟨kf, kd, kq, kt, kc, ke, nE, [ent w "minalpha" k1 v1]⟩ f q (.ref ms0) false) ∈ news) (m3 : (f, instObj 569 df) ∈ news) (m4 : (df, sioObj w z l 0 tp) ∈ news) (m5 : (q, listOf #[] cq) ∈ news) (m6 : (ms0, methodObj (.ref 666) (.ref x)) ∈ news)
    (hside : dx < x ∧ x < df ∧ df < f ∧ f < q ∧ q < ms0)
    (hret : ∀ h' (k : Tok) (nE' : Nat) tk', Fr h₀ L h' m → News h₀ L h' [(x, instObj 690 dx), (dx, lexObj w ⟨kf, kd, kq, kt, kc, ke, nE', [ent w "minalpha" k1 v1, ent w "mindigits" k v]⟩ f q (.ref ms0) false), (f, instObj 569 df), (df, sioObj w z l 0 tp), (q, listOf #[] cq), (ms0, methodObj (.ref 666) (.ref x))] → Q () { s with heap := h', toks := tk' }) : wpAny (model prog w) A (setAttr (.ref x) (Str.ofString "mindigits") v) Q E s := by
  obtain ⟨h1, h2, h3, h4, h5⟩ := hside
  refine lx_set_b F X (News.part N (six_mem m1 m2 m3 m4 m5 m6)) (.head _) (.tail (Nat.ne_of_gt h1) (.head fun p hp => ?_)) fun h' F' N' => hret h' _ _ _ F' N'
  simp only [List.mem_cons, List.not_mem_nil, or_false] at hp
  rcases hp with rfl | rfl | rfl | rfl <;> exact Nat.ne_of_gt (by omega)
end
end
section
theorem reset39 : True := by
  w_top off
  trivial
/-! ### the lines (local) -/
local macro_rules | `(tactic| k_in) => `(tactic| first | with_reducible assumption | exact Frag.In.keeps (by with_reducible assumption) (Fr.keep (by with_reducible assumption)) | exact Frag.In.keeps (by with_reducible assumption) (Fr.keep (by k_asm)))
local macro_rules | `(tactic| k_room) => `(tactic| ktr_room)
/- entry into a def whose ledger is a part of the caller's -/
local macro_rules | `(tactic| ktr_enter) => `(tactic| (refine' code_lx ?k1 ?k2 ?k3 ?k4 ?kO ?k5 ?kA ?kF ?kK ?k6 ?k7 ?k8 ?k9 ?kB ?_ ?c2 ?c3 ?c4 ?c5; (case kA => exact rfl); (case kF => exact rfl); (case kK => first | exact rfl | assumption); (case k1 => k_asm); (case k2 => k_asm); (case k3 => k_asm); (case k4 => k_asm); (case kO => assumption); (case k5 => k_asm); (case k6 => k_is); (case k7 => k_is); (case k8 => k_room); (case k9 => first | exact BindsTo.of_eq rfl | exact binds_K (by k_in) rfl (by k_is) rfl rfl rfl | fail "k_enter: no rule for these arguments"); (case c5 => decide); (case kB => exact locs rfl); (case c2 => exact rfl); (case c3 => exact rfl); (case c4 => exact rfl); k_whole; intro g' L' h' FG' F' N' B' X' T' l1; (try k_lt l1); (try dsimp only); (try k_lift B'); (try k_fold)))
/- apartness -/
local macro_rules | `(tactic| ktr_rel) => `(tactic| first | assumption | ((try simp only [List.cons_append, List.nil_append, List.append_nil]); repeat (first | exact LxOff.nil | refine LxOff.cons (by k_all) ?_)))
/- a dict of six written entries and a tail -/
local macro_rules | `(tactic| k_get) => `(tactic| first
  | (refine' get6_hit ?hm ?h; (case hm => assumption); (case h => k_get))
  | (refine' get6_miss ?hm ?n1 ?n2 ?h; (case hm => assumption); (case n1 => decide +kernel); (case n2 => decide +kernel); (case h => k_get))
  | (refine' get6_is ?hm ?h ?h2; (case hm => assumption); (case h => k_get); (case h2 => (intro h9; exact absurd (h9.symm.trans (by k_get)) (by nofun)))))
local macro_rules | `(tactic| k_put) => `(tactic| (refine' put6 ?hm ?h; (case hm => assumption); (case h => k_put)))
local macro_rules | `(tactic| walk_at "setAttr ref") => `(tactic| (k_here; k_dflt ((refine' set_dict ?k1 ?k2 ?k3 ?k4 ?k5 ?k6 ?k7 ?k8 ?k9 ?k10 ?k11 ?k12 ?k13 ?_; (case k1 => k_asm); (case k2 => k_asm); (case k3 => k_asm); (case k4 => k_inst); (case k5 => exact rfl); (case k6 => k_is); (case k7 => k_is); (case k8 => k_is); (case k9 => k_is); (case k10 => k_get); (case k11 => k_put); (case k12 => k_upd); (case k13 => first | exact Nat.le_of_ble_eq_true rfl | (have h9 := MoreOk.len (by assumption); simp only [List.length_cons]; omega)); k_whole; intro h' F' N'; (try k_sweep)))))
local macro_rules | `(tactic| walk_at "call builtin:list.extend") => `(tactic| (k_here; (with_reducible show wpAny _ _ (call (Value.builtin _) [Value.ref _, Value.str _ _]) _ _ _); k_dflt (first
  | (refine' lx_extend0 ?hh ?F ?N ?D ?_; (case hh => exact rfl); (case F => k_asm); (case N => k_asm); (case D => k_mem); intro h' tk' F' N'; (try k_sweep))
  | (refine' lx_extend1 ?hh ?F ?N ?U ?_; (case hh => exact rfl); (case F => k_asm); (case N => k_asm); (case U => k_updF); intro h' tk' u' c' F' N'; (try dsimp only at N'); (try k_sweep)))))
local macro_rules | `(tactic| walk_at "call type:list") => `(tactic| (k_here; (with_reducible show wpAny _ _ (call (Value.type _) [Value.str _ _]) _ _ _); k_dflt (first
  | (refine' lx_list0 ?hh ?F ?N ?_; (case hh => exact rfl); (case F => k_asm); (case N => k_asm); intro p' h' tk' c' F' N' l1; (try k_lt l1); (try k_sweep))
  | (refine' lx_list1 ?hh ?F ?N ?_; (case hh => exact rfl); (case F => k_asm); (case N => k_asm); intro p' h' tk' u' c' F' N' l1; (try k_lt l1); (try k_sweep)))))
local macro_rules | `(tactic| tb_rel) => `(tactic| (refine' cb_drop ?cN ?cS; (case cN => assumption); (case cS => (repeat (first | exact List.forall_mem_nil _ | refine List.forall_mem_cons.mpr ⟨by k_mem, ?_⟩)))))
/- the call of a def by its contract: ktr_call CONTRACT PRE -/
local macro_rules | `(tactic| ktr_unf) => `(tactic| (intros; (with_reducible rename News _ _ _ _ => N9); (try simp only [List.cons_append, List.nil_append] at N9); (try dsimp only); (try k_fold); (try k_sweep)))
local macro_rules | `(tactic| tb_start) => `(tactic| ((repeat' apply And.intro) <;> first | assumption | omega | rfl))
local macro_rules | `(tactic| ktr_call $x:term $c:term) => `(tactic| (refine' $x (pre := $c) ?k1 ?k2 ?k3 ?k4 ?k5 ?kK ?kd ?ku ?kO ?kS ?_; (case k4 => k_asm); (case kS => tb_start); (case k1 => k_asm); (case k2 => k_asm); (case k3 => k_asm); (case k5 => k_asm); (case kK => first | exact rfl | assumption); (case kd => ktr_room); (case ku => ktr_units); (case kO => ktr_rel); ktr_unf))
local macro_rules | `(tactic| walk_at "exec While") => `(tactic| (k_here; k_dflt (refine whl_start 100 ?_)))
local macro_rules | `(tactic| walk_at "exec While BoolOp") => `(tactic| (k_here; k_dflt (refine whl_start 100 ?_)))
local macro_rules | `(tactic| walk_at "call ref") => `(tactic| (k_here; (with_reducible show wpAny _ _ (call (Value.ref 515) [Value.ref _, Value.int _ _] []) _ _ _); k_dflt (first
  | ktr_call sioRead_e [] | ktr_call sioRead_e [_] | ktr_call sioRead_e [_, _] | ktr_call sioRead_e [_, _, _] | ktr_call sioRead_e [_, _, _, _]
  | ktr_call sioRead_c [] | ktr_call sioRead_c [_] | ktr_call sioRead_c [_, _] | ktr_call sioRead_c [_, _, _] | ktr_call sioRead_c [_, _, _, _]
  | ktr_call sioRead_0 [] | ktr_call sioRead_0 [_] | ktr_call sioRead_0 [_, _] | ktr_call sioRead_0 [_, _, _] | ktr_call sioRead_0 [_, _, _, _]
  | ktr_call sioRead [] | ktr_call sioRead [_] | ktr_call sioRead [_, _] | ktr_call sioRead [_, _, _] | ktr_call sioRead [_, _, _, _])))
/-! ### read() with its default -/
theorem lexReadD0 {prog : Program} {w : World} {p : Program} {loose : List Str} {mean : ExcName → Option Value} {mg mb : Str → Option Value}
    {dp un : Nat} {gd : Option (List Code)} {cn : Str} {cs : Scope} {a : Addr} {ccd : Value} {cl : List (Str × Addr)} {outer : List Env} {A₀ : Around} {base h₀ : Heap} {L : Addr} {m : Str → Option Value} {s : Shared} {Q E : Value → Shared → Prop}
    {x dx f df q cq : Nat} {y : LexT} {st : Value} {eof : Bool} {z : SioT} {tp : Tok} {l : List Nat} {pos c : Nat} {r : List Nat} {pre post : List (Addr × Obj)}
    (B : Below A₀ base outer h₀) (F : Fr h₀ L s.heap m) (X : (hd.heap_39 w.params).In h₀)
    (N : News h₀ L s.heap (pre ++ ([(x, instObj 690 dx), (dx, lexObj w y f q st eof), (f, instObj 569 df), (df, sioObj w z l (pos) tp), (q, listOf #[] cq)] ++ post)))
    (Tp : Top p loose mean mg mb h₀) (hcs : cs.kind = .function) (hdp : dp + 4 < recursionLimit) (hun : un + 60 < cLine)
    (hoff : LxOff [(x, instObj 690 dx), (dx, lexObj w y f q st eof), (f, instObj 569 df), (df, sioObj w z l (pos) tp), (q, listOf #[] cq)] (pre ++ post)) (hside : dx < x ∧ x < df ∧ df < f ∧ f < q ∧ MoreOk y.more ∧ (tx l).length ≤ 1000 ∧ pos ≤ 1000 ∧ l.drop pos = c :: r)
    (hret : ∀ t h' tk', Fr h₀ L h' m → Q (.str (tx [c]) t) { s with heap := h', toks := tk' }) :
    wpAny (model prog w) (ktrTop dp un gd cn cs L a ccd cl outer) (call (.ref 616) [.ref x]) Q E s := by
  obtain ⟨h1, h2, h3, h4, hm, hT, hpos, hd⟩ := hside
  refine wpAny_call ?_
  k_dflt ktr_enter
  k_steps
  all_goals (intro lift; have LL := (lift _ _ (by assumption) (by assumption)).1; clear lift; try dsimp only)
  · have e := rd_true (by assumption)
    cases e
  · rw [empty_tx]
    exact hret _ _ _ (by assumption)
theorem lexReadD1 {prog : Program} {w : World} {p : Program} {loose : List Str} {mean : ExcName → Option Value} {mg mb : Str → Option Value}
    {dp un : Nat} {gd : Option (List Code)} {cn : Str} {cs : Scope} {a : Addr} {ccd : Value} {cl : List (Str × Addr)} {outer : List Env} {A₀ : Around} {base h₀ : Heap} {L : Addr} {m : Str → Option Value} {s : Shared} {Q E : Value → Shared → Prop}
    {x dx f df q cq : Nat} {y : LexT} {st : Value} {eof : Bool} {z : SioT} {tp : Tok} {l : List Nat} {pos c : Nat} {tc : Tok} {pre post : List (Addr × Obj)}
    (B : Below A₀ base outer h₀) (F : Fr h₀ L s.heap m) (X : (hd.heap_39 w.params).In h₀)
    (N : News h₀ L s.heap (pre ++ ([(x, instObj 690 dx), (dx, lexObj w y f q st eof), (f, instObj 569 df), (df, sioObj w z l (pos) tp), (q, listOf #[.str (tx [c]) tc] cq)] ++ post)))
    (Tp : Top p loose mean mg mb h₀) (hcs : cs.kind = .function) (hdp : dp + 4 < recursionLimit) (hun : un + 60 < cLine)
    (hoff : LxOff [(x, instObj 690 dx), (dx, lexObj w y f q st eof), (f, instObj 569 df), (df, sioObj w z l (pos) tp), (q, listOf #[.str (tx [c]) tc] cq)] (pre ++ post)) (hside : dx < x ∧ x < df ∧ df < f ∧ f < q ∧ MoreOk y.more ∧ (tx l).length ≤ 1000 ∧ pos ≤ 1000)
    (hret : ∀ t h' tk', Fr h₀ L h' m → Q (.str (tx [c]) t) { s with heap := h', toks := tk' }) :
    wpAny (model prog w) (ktrTop dp un gd cn cs L a ccd cl outer) (call (.ref 616) [.ref x]) Q E s := by
  obtain ⟨h1, h2, h3, h4, hm, hT, hpos⟩ := hside
  have hlc : (tx [c]).length ≤ 1 := Nat.le_refl 1
  have hl0 : (tx []).length ≤ 1 := Nat.zero_le 1
  refine wpAny_call ?_
  k_dflt ktr_enter
  k_steps
  all_goals (intro lift; have LL := (lift _ _ (by assumption) (by assumption)).1; clear lift; try dsimp only)
  · exact (rd_never (by assumption)).elim
  · rw [two_tx]
    exact hret _ _ _ (by assumption)
end
section
theorem reset40 : True := by
  w_top off
  trivial
/-! ### the lines (local) -/
local macro_rules | `(tactic| k_in) => `(tactic| first | with_reducible assumption | exact Frag.In.keeps (by with_reducible assumption) (Fr.keep (by with_reducible assumption)) | exact Frag.In.keeps (by with_reducible assumption) (Fr.keep (by k_asm)))
local macro_rules | `(tactic| k_room) => `(tactic| ktr_room)
/- entry into a def whose ledger is a part of the caller's -/
local macro_rules | `(tactic| ktr_enter) => `(tactic| (refine' code_lx ?k1 ?k2 ?k3 ?k4 ?kO ?k5 ?kA ?kF ?kK ?k6 ?k7 ?k8 ?k9 ?kB ?_ ?c2 ?c3 ?c4 ?c5; (case kA => exact rfl); (case kF => exact rfl); (case kK => first | exact rfl | assumption); (case k1 => k_asm); (case k2 => k_asm); (case k3 => k_asm); (case k4 => k_asm); (case kO => assumption); (case k5 => k_asm); (case k6 => k_is); (case k7 => k_is); (case k8 => k_room); (case k9 => first | exact BindsTo.of_eq rfl | exact binds_K (by k_in) rfl (by k_is) rfl rfl rfl | fail "k_enter: no rule for these arguments"); (case c5 => decide); (case kB => exact locs rfl); (case c2 => exact rfl); (case c3 => exact rfl); (case c4 => exact rfl); k_whole; intro g' L' h' FG' F' N' B' X' T' l1; (try k_lt l1); (try dsimp only); (try k_lift B'); (try k_fold)))
/- apartness -/
local macro_rules | `(tactic| ktr_rel) => `(tactic| first | assumption | ((try simp only [List.cons_append, List.nil_append, List.append_nil]); repeat (first | exact LxOff.nil | refine LxOff.cons (by k_all) ?_)))
/- a dict of six written entries and a tail -/
local macro_rules | `(tactic| k_get) => `(tactic| first
  | (refine' get6_hit ?hm ?h; (case hm => assumption); (case h => k_get))
  | (refine' get6_miss ?hm ?n1 ?n2 ?h; (case hm => assumption); (case n1 => decide +kernel); (case n2 => decide +kernel); (case h => k_get))
  | (refine' get6_is ?hm ?h ?h2; (case hm => assumption); (case h => k_get); (case h2 => (intro h9; exact absurd (h9.symm.trans (by k_get)) (by nofun)))))
local macro_rules | `(tactic| k_put) => `(tactic| (refine' put6 ?hm ?h; (case hm => assumption); (case h => k_put)))
local macro_rules | `(tactic| walk_at "setAttr ref") => `(tactic| (k_here; k_dflt ((refine' set_dict ?k1 ?k2 ?k3 ?k4 ?k5 ?k6 ?k7 ?k8 ?k9 ?k10 ?k11 ?k12 ?k13 ?_; (case k1 => k_asm); (case k2 => k_asm); (case k3 => k_asm); (case k4 => k_inst); (case k5 => exact rfl); (case k6 => k_is); (case k7 => k_is); (case k8 => k_is); (case k9 => k_is); (case k10 => k_get); (case k11 => k_put); (case k12 => k_upd); (case k13 => first | exact Nat.le_of_ble_eq_true rfl | (have h9 := MoreOk.len (by assumption); simp only [List.length_cons]; omega)); k_whole; intro h' F' N'; (try k_sweep)))))
local macro_rules | `(tactic| walk_at "call builtin:list.extend") => `(tactic| (k_here; (with_reducible show wpAny _ _ (call (Value.builtin _) [Value.ref _, Value.str _ _]) _ _ _); k_dflt (first
  | (refine' lx_extend0 ?hh ?F ?N ?D ?_; (case hh => exact rfl); (case F => k_asm); (case N => k_asm); (case D => k_mem); intro h' tk' F' N'; (try k_sweep))
  | (refine' lx_extend1 ?hh ?F ?N ?U ?_; (case hh => exact rfl); (case F => k_asm); (case N => k_asm); (case U => k_updF); intro h' tk' u' c' F' N'; (try dsimp only at N'); (try k_sweep)))))
local macro_rules | `(tactic| walk_at "call type:list") => `(tactic| (k_here; (with_reducible show wpAny _ _ (call (Value.type _) [Value.str _ _]) _ _ _); k_dflt (first
  | (refine' lx_list0 ?hh ?F ?N ?_; (case hh => exact rfl); (case F => k_asm); (case N => k_asm); intro p' h' tk' c' F' N' l1; (try k_lt l1); (try k_sweep))
  | (refine' lx_list1 ?hh ?F ?N ?_; (case hh => exact rfl); (case F => k_asm); (case N => k_asm); intro p' h' tk' u' c' F' N' l1; (try k_lt l1); (try k_sweep)))))
local macro_rules | `(tactic| tb_rel) => `(tactic| (refine' cb_drop ?cN ?cS; (case cN => assumption); (case cS => (repeat (first | exact List.forall_mem_nil _ | refine List.forall_mem_cons.mpr ⟨by k_mem, ?_⟩)))))
/-! ### the contracts as the law's tail uses them -/
theorem five_mem {news : List (Addr × Obj)} {a b c d e : Addr × Obj} (h1 : a ∈ news) (h2 : b ∈ news) (h3 : c ∈ news) (h4 : d ∈ news) (h5 : e ∈ news) : ∀ p ∈ [a, b, c, d, e], p ∈ news := fun p hp => by
  simp only [List.mem_cons, List.not_mem_nil, or_false] at hp
  rcases hp with rfl | rfl | rfl | rfl | rfl <;> assumption
theorem al_lt {c : Nat} (h : al c = true) : c < 128 := by
  unfold al at h
  simp at h
  omega
theorem dg_lt {c : Nat} (h : dg c = true) : c < 128 := by
  unfold dg at h
  simp at h
  omega
theorem poolL_al {c : Nat} (h : PoolL c) : al c = true := by
  have k : ∀ c ∈ [97, 98, 90, 121, 81], al c = true := by decide
  exact k c h
theorem poolF_dg {c : Nat} (h : PoolF c) : dg c = true := by
  have k : ∀ c ∈ [48, 49, 50, 51, 52, 53, 54, 55, 56, 57], dg c = true := by decide
  exact k c h
theorem lit_list : Str.ofString "ab 1234 abcd 12 xyzw" = tx [97, 98, 32, 49, 50, 51, 52, 32, 97, 98, 99, 100, 32, 49, 50, 32, 120, 121, 122, 119] := by decide +kernel
theorem lit_ex : Str.ofString "!" = tx [33] := by decide +kernel
theorem lit_a : Str.ofString "a" = tx [97] := by decide +kernel
theorem lit_1 : Str.ofString "1" = tx [49] := by decide +kernel
theorem lit_o : Str.ofString "-_ \n" = tx [45, 95, 32, 10] := by decide +kernel
theorem lit_w {l : List Nat} : tx l ++ Str.ofString "!" = tx (l ++ [33]) := by rw [lit_ex, tx_app]
theorem lit_f {l : List Nat} : tx l ++ Str.ofString "a" = tx (l ++ [97]) := by rw [lit_a, tx_app]
theorem lit_r {l : List Nat} : Str.ofString "-_ \n" ++ tx l ++ Str.ofString "1" = tx ([45, 95, 32, 10] ++ (l ++ [49])) := by rw [lit_o, lit_1, tx_app, tx_app, List.append_assoc]
theorem toks_list : Toks 4 3 [97, 98, 32, 49, 50, 51, 52, 32, 97, 98, 99, 100, 32, 49, 50, 32, 120, 121, 122, 119] [("NUMBER", [49, 50, 51, 52]), ("STRING", [97, 98, 99, 100]), ("STRING", [120, 121, 122, 119])] := by
  refine .alN (by decide) (by decide) (show Toks 4 3 [32, 49, 50, 51, 52, 32, 97, 98, 99, 100, 32, 49, 50, 32, 120, 121, 122, 119] _ from ?_)
  refine .oth (by decide) ?_
  refine .dgY (by decide) (by decide) (show Toks 4 3 [32, 97, 98, 99, 100, 32, 49, 50, 32, 120, 121, 122, 119] _ from ?_)
  refine .oth (by decide) ?_
  refine .alY (by decide) (by decide) (show Toks 4 3 [32, 49, 50, 32, 120, 121, 122, 119] _ from ?_)
  refine .oth (by decide) ?_
  refine .dgN (by decide) (by decide) (show Toks 4 3 [32, 120, 121, 122, 119] _ from ?_)
  refine .oth (by decide) ?_
  exact .alY (by decide) (by decide) .nil
theorem lexNewS {prog : Program} {w : World} {p : Program} {loose : List Str} {mean : ExcName → Option Value} {mg mb : Str → Option Value}
    {dp un : Nat} {gd : Option (List Code)} {cn : Str} {cs : Scope} {a : Addr} {ccd : Value} {cl : List (Str × Addr)} {outer : List Env} {A₀ : Around} {base h₀ : Heap} {L : Addr} {m : Str → Option Value} {s : Shared} {Q E : Value → Shared → Prop}
    {l : List Nat} {tl : Tok} {v : Str} {news : List (Addr × Obj)}
    (B : Below A₀ base outer h₀) (F : Fr h₀ L s.heap m) (X : (hd.heap_39 w.params).In h₀) (N : News h₀ L s.heap news)
    (Tp : Top p loose mean mg mb h₀) (hcs : cs.kind = .function) (hdp : dp + 16 < recursionLimit) (hun : un + 210 < cLine) (hv : v = tx l) (hl : l.length ≤ 120)
    (hret : ∀ (x dx f df q ms0 cq : Nat) (kf kd kq kt kc ke : Tok) (nE : Nat) z tp h' tk', dx < x → x < df → df < f → f < q → q < ms0 → Fr h₀ L h' m → News h₀ L h' [(x, instObj 690 dx), (dx, lexObj w ⟨kf, kd, kq, kt, kc, ke, nE, []⟩ f q (.ref ms0) false), (f, instObj 569 df), (df, sioObj w z l 0 tp), (q, listOf #[] cq), (ms0, methodObj (.ref 666) (.ref x))] → Q (.ref x) { s with heap := h', toks := tk' }) :
    wpAny (model prog w) (ktrTop dp un gd cn cs L a ccd cl outer) (call (.ref 690) [.str v tl]) Q E s := by
  subst hv
  refine lexNew_str (rest := []) B F X (fun _ h => nomatch h) Tp hcs hdp hun (by rw [tx_len]; omega) ?_
  intro x dx f df q ms0 cq y z tp h' tk' o1 o2 o3 o4 o5 hm _ F' N'
  obtain ⟨kf, kd, kq, kt, kc, ke, nE, more⟩ := y
  dsimp only at hm
  subst hm
  exact hret x dx f df q ms0 cq kf kd kq kt kc ke nE z tp h' tk' o1 o2 o3 o4 o5 F' N'
theorem lexNewB {prog : Program} {w : World} {p : Program} {loose : List Str} {mean : ExcName → Option Value} {mg mb : Str → Option Value}
    {dp un : Nat} {gd : Option (List Code)} {cn : Str} {cs : Scope} {a : Addr} {ccd : Value} {cl : List (Str × Addr)} {outer : List Env} {A₀ : Around} {base h₀ : Heap} {L : Addr} {m : Str → Option Value} {s : Shared} {Q E : Value → Shared → Prop}
    {l : List Nat} {tl : Tok} {c : Nat} {news : List (Addr × Obj)}
    (B : Below A₀ base outer h₀) (F : Fr h₀ L s.heap m) (X : (hd.heap_39 w.params).In h₀) (N : News h₀ L s.heap news)
    (Tp : Top p loose mean mg mb h₀) (hcs : cs.kind = .function) (hdp : dp + 16 < recursionLimit) (hun : un + 210 < cLine) (hl : (tx (c :: l)).length ≤ 1000 ∧ ∀ d ∈ c :: l, d < 128)
    (hret : ∀ (x dx f df q ms0 cq : Nat) (kf kd kq kt kc ke : Tok) (nE : Nat) z tp h' tk', dx < x → x < df → df < f → f < q → q < ms0 → Fr h₀ L h' m → News h₀ L h' [(x, instObj 690 dx), (dx, lexObj w ⟨kf, kd, kq, kt, kc, ke, nE, []⟩ f q (.ref ms0) false), (f, instObj 569 df), (df, sioObj w z (c :: l) 0 tp), (q, listOf #[] cq), (ms0, methodObj (.ref 666) (.ref x))] → Q (.ref x) { s with heap := h', toks := tk' }) :
    wpAny (model prog w) (ktrTop dp un gd cn cs L a ccd cl outer) (call (.ref 690) [.bytes (oct (c :: l)).toArray tl]) Q E s := by
  refine lexNew_bytes (rest := []) B F X (fun _ h => nomatch h) Tp hcs hdp hun hl ?_
  intro x dx f df q ms0 cq y z tp h' tk' o1 o2 o3 o4 o5 hm _ F' N'
  obtain ⟨kf, kd, kq, kt, kc, ke, nE, more⟩ := y
  dsimp only at hm
  subst hm
  exact hret x dx f df q ms0 cq kf kd kq kt kc ke nE z tp h' tk' o1 o2 o3 o4 o5 F' N'
theorem lxListL {prog : Program} {w : World} {p : Program} {loose : List Str} {mean : ExcName → Option Value} {mg mb : Str → Option Value}
    {dp un : Nat} {gd : Option (List Code)} {cn : Str} {cs : Scope} {a : Addr} {ccd : Value} {cl : List (Str × Addr)} {outer : List Env} {A₀ : Around} {base h₀ : Heap} {L : Addr} {m : Str → Option Value} {s : Shared} {Q E : Value → Shared → Prop}
    {x dx f df q cq : Nat} {kf kd kq kt kc ke : Tok} {nE : Nat} {ms0 : Nat} {z : SioT} {tp : Tok} {news : List (Addr × Obj)} {l : List Nat} {ks : List (String × List Nat)}
    (B : Below A₀ base outer h₀) (F : Fr h₀ L s.heap m) (X : (hd.heap_39 w.params).In h₀) (N : News h₀ L s.heap news)
    (Tp : Top p loose mean mg mb h₀) (hcs : cs.kind = .function) (hdp : dp + 18 < recursionLimit) (hun : un + 220 < cLine)
    (m1 : (x, instObj 690 dx) ∈ news) (m2 : (dx, lexObj w ⟨kf, kd, kq, kt, kc, ke, nE, []⟩ f q (.ref ms0) false) ∈ news) (m3 : (f, instObj 569 df) ∈ news) (m4 : (df, sioObj w z l 0 tp) ∈ news) (m5 : (q, listOf #[] cq) ∈ news) (m6 : (ms0, methodObj (.ref 666) (.ref x)) ∈ news) (hside : dx < x ∧ x < df ∧ df < f ∧ f < q ∧ q < ms0) (hT : Toks 4 3 l ks) (hasc : ∀ c ∈ l, c < 128) (hl : l.length ≤ 120)
    (hret : ∀ (S : Nat) (es : List TkE) (c : Nat) (h' : Heap) (tk' : Nat), es.map TkE.tk = ks → Fr h₀ L h' m → News h₀ L h' ((S, listOf (es.map TkE.val).toArray c) :: es.map TkE.ob) → Q (.ref S) { s with heap := h', toks := tk', gens := s.gens.push .finished }) :
    wpAny (model prog w) (ktrTop dp un gd cn cs L a ccd cl outer) (call (.type "list") [.ref x]) Q E s := by
  obtain ⟨h1, h2, h3, h4, h5⟩ := hside
  refine lx_list_obj (pre := []) (post := []) (qs := []) (pos := 0) (rem := l) (la := 4) (ld := 3) (y := ⟨kf, kd, kq, kt, kc, ke, nE, []⟩) B F X (News.part N (six_mem m1 m2 m3 m4 m5 m6)) Tp hcs hdp hun .none ⟨h1, h2, h3, h4, .nil, by rw [tx_len]; omega, by omega, .nil rfl, .inl ⟨rfl, rfl, rfl⟩, hasc, by omega, h5, hT⟩ ?_
  intro S es c h' tk' he F' N' _ _ _
  exact hret S es c h' tk' he F' (by simpa using N')
theorem lexAlphaL {prog : Program} {w : World} {p : Program} {loose : List Str} {mean : ExcName → Option Value} {mg mb : Str → Option Value}
    {dp un : Nat} {gd : Option (List Code)} {cn : Str} {cs : Scope} {a : Addr} {ccd : Value} {cl : List (Str × Addr)} {outer : List Env} {A₀ : Around} {base h₀ : Heap} {L : Addr} {m : Str → Option Value} {s : Shared} {Q E : Value → Shared → Prop}
    {x dx f df q cq : Nat} {kf kd kq kt kc ke : Tok} {nE : Nat} {ms0 : Nat} {z : SioT} {tp : Tok} {news : List (Addr × Obj)} {wd : List Nat}
    (B : Below A₀ base outer h₀) (F : Fr h₀ L s.heap m) (X : (hd.heap_39 w.params).In h₀) (N : News h₀ L s.heap news)
    (Tp : Top p loose mean mg mb h₀) (hcs : cs.kind = .function) (hdp : dp + 8 < recursionLimit) (hun : un + 100 < cLine)
    (m1 : (x, instObj 690 dx) ∈ news) (m2 : (dx, lexObj w ⟨kf, kd, kq, kt, kc, ke, nE, []⟩ f q (.ref ms0) false) ∈ news) (m3 : (f, instObj 569 df) ∈ news) (m4 : (df, sioObj w z (wd ++ [33]) 0 tp) ∈ news) (m5 : (q, listOf #[] cq) ∈ news) (hside : dx < x ∧ x < df ∧ df < f ∧ f < q) (hall : ∀ c ∈ wd, al c = true) (hl : wd.length ≤ 10)
    (hret0 : ∀ (rt t2 q' : Nat) (qs' : List Value) pos' tp' cq' k1 k2 (ms : Nat) h' tk', 4 ≤ (tx wd).length → pos' ≤ 1000 → QRem qs' (wd ++ [33]) pos' [33] → f < q' → q' < t2 → t2 < rt → Fr h₀ L h' m → News h₀ L h' [(rt, tupOf [.ref t2, .ref ms]), (t2, tupOf [.str (Str.ofString "STRING") k1, .str (tx wd) k2]), (x, instObj 690 dx), (dx, lexObj w ⟨kf, kd, kq, kt, kc, ke, nE, []⟩ f q' (.ref ms0) false), (f, instObj 569 df), (df, sioObj w z (wd ++ [33]) pos' tp'), (q', listOf qs'.toArray cq')] → Q (.ref rt) { s with heap := h', toks := tk' })
    (hret1 : ∀ (rt q' : Nat) (qs' : List Value) pos' tp' cq' (ms : Nat) h' tk', (tx wd).length < 4 → pos' ≤ 1000 → QRem qs' (wd ++ [33]) pos' [33] → f < q' → q' < rt → Fr h₀ L h' m → News h₀ L h' [(rt, tupOf [.none, .ref ms]), (x, instObj 690 dx), (dx, lexObj w ⟨kf, kd, kq, kt, kc, ke, nE, []⟩ f q' (.ref ms0) false), (f, instObj 569 df), (df, sioObj w z (wd ++ [33]) pos' tp'), (q', listOf qs'.toArray cq')] → Q (.ref rt) { s with heap := h', toks := tk' }) :
    wpAny (model prog w) (ktrTop dp un gd cn cs L a ccd cl outer) (call (.ref 687) [.ref x]) Q E s := by
  obtain ⟨h1, h2, h3, h4⟩ := hside
  obtain ⟨e1, e2⟩ := take_pred (pr := al) (a := wd) (b := [33]) hall (fun c hc => by rw [← Option.some.inj hc]; decide)
  have hasc : ∀ c ∈ wd ++ [33], c < 128 := fun c hc => by
    rcases List.mem_append.mp hc with hc | hc
    · exact al_lt (hall c hc)
    · rw [List.mem_singleton.mp hc]; decide
  have hlen : (wd ++ [33]).length ≤ 11 := by rw [List.length_append]; exact Nat.add_le_add_right hl 1
  refine lexAlpha_u (pre := []) (post := []) (qs := []) (pos := 0) (rem := wd ++ [33]) (la := 4) (ld := 3) (y := ⟨kf, kd, kq, kt, kc, ke, nE, []⟩) (st := .ref ms0) B F X (News.part N (five_mem m1 m2 m3 m4 m5)) Tp hcs hdp hun .none ⟨h1, h2, h3, h4, .nil, by rw [tx_len]; omega, by omega, .nil rfl, .inl ⟨rfl, rfl, rfl⟩, hasc, by omega⟩ ?_ ?_
  · intro rt t2 ms q' qs' pos' tp' cq' k1 k2 h' tk' hle hp hq o1 o2 o3 o4 _ _ _ _ F' N'
    rw [e1] at hle N'
    rw [e2] at hq N'
    exact hret0 rt t2 q' qs' pos' tp' cq' k1 k2 ms h' tk' (by rw [tx_len]; omega) hp hq o1 o2 (by omega) F' (News.part N' (fun p hp => by simp only [List.mem_cons, List.not_mem_nil, or_false, List.nil_append, List.append_nil, List.isEmpty_cons] at hp ⊢; rcases hp with h | h | h | h | h | h | h <;> simp [h]))
  · intro rt ms q' qs' pos' tp' cq' h' tk' hle hp hq o1 o2 o3 _ _ _ F' N'
    rw [e1] at hle
    rw [e2] at hq N'
    exact hret1 rt q' qs' pos' tp' cq' ms h' tk' (by rw [tx_len]; omega) hp hq o1 (by omega) F' (News.part N' (fun p hp => by simp only [List.mem_cons, List.not_mem_nil, or_false, List.nil_append, List.append_nil, List.isEmpty_cons] at hp ⊢; rcases hp with h | h | h | h | h | h <;> simp [h]))
theorem lexDigitsL {prog : Program} {w : World} {p : Program} {loose : List Str} {mean : ExcName → Option Value} {mg mb : Str → Option Value}
    {dp un : Nat} {gd : Option (List Code)} {cn : Str} {cs : Scope} {a : Addr} {ccd : Value} {cl : List (Str × Addr)} {outer : List Env} {A₀ : Around} {base h₀ : Heap} {L : Addr} {m : Str → Option Value} {s : Shared} {Q E : Value → Shared → Prop}
    {x dx f df q cq : Nat} {kf kd kq kt kc ke : Tok} {nE : Nat} {ms0 : Nat} {z : SioT} {tp : Tok} {news : List (Addr × Obj)} {wd : List Nat}
    (B : Below A₀ base outer h₀) (F : Fr h₀ L s.heap m) (X : (hd.heap_39 w.params).In h₀) (N : News h₀ L s.heap news)
    (Tp : Top p loose mean mg mb h₀) (hcs : cs.kind = .function) (hdp : dp + 8 < recursionLimit) (hun : un + 100 < cLine)
    (m1 : (x, instObj 690 dx) ∈ news) (m2 : (dx, lexObj w ⟨kf, kd, kq, kt, kc, ke, nE, []⟩ f q (.ref ms0) false) ∈ news) (m3 : (f, instObj 569 df) ∈ news) (m4 : (df, sioObj w z (wd ++ [97]) 0 tp) ∈ news) (m5 : (q, listOf #[] cq) ∈ news) (hside : dx < x ∧ x < df ∧ df < f ∧ f < q) (hall : ∀ c ∈ wd, dg c = true) (hl : wd.length ≤ 10)
    (hret0 : ∀ (rt t2 q' : Nat) (qs' : List Value) pos' tp' cq' k1 k2 (ms : Nat) h' tk', 3 ≤ (tx wd).length → pos' ≤ 1000 → QRem qs' (wd ++ [97]) pos' [97] → f < q' → q' < t2 → t2 < rt → Fr h₀ L h' m → News h₀ L h' [(rt, tupOf [.ref t2, .ref ms]), (t2, tupOf [.str (Str.ofString "NUMBER") k1, .str (tx wd) k2]), (x, instObj 690 dx), (dx, lexObj w ⟨kf, kd, kq, kt, kc, ke, nE, []⟩ f q' (.ref ms0) false), (f, instObj 569 df), (df, sioObj w z (wd ++ [97]) pos' tp'), (q', listOf qs'.toArray cq')] → Q (.ref rt) { s with heap := h', toks := tk' })
    (hret1 : ∀ (rt q' : Nat) (qs' : List Value) pos' tp' cq' (ms : Nat) h' tk', (tx wd).length < 3 → pos' ≤ 1000 → QRem qs' (wd ++ [97]) pos' [97] → f < q' → q' < rt → Fr h₀ L h' m → News h₀ L h' [(rt, tupOf [.none, .ref ms]), (x, instObj 690 dx), (dx, lexObj w ⟨kf, kd, kq, kt, kc, ke, nE, []⟩ f q' (.ref ms0) false), (f, instObj 569 df), (df, sioObj w z (wd ++ [97]) pos' tp'), (q', listOf qs'.toArray cq')] → Q (.ref rt) { s with heap := h', toks := tk' }) :
    wpAny (model prog w) (ktrTop dp un gd cn cs L a ccd cl outer) (call (.ref 680) [.ref x]) Q E s := by
  obtain ⟨h1, h2, h3, h4⟩ := hside
  obtain ⟨e1, e2⟩ := take_pred (pr := dg) (a := wd) (b := [97]) hall (fun c hc => by rw [← Option.some.inj hc]; decide)
  have hasc : ∀ c ∈ wd ++ [97], c < 128 := fun c hc => by
    rcases List.mem_append.mp hc with hc | hc
    · exact dg_lt (hall c hc)
    · rw [List.mem_singleton.mp hc]; decide
  have hlen : (wd ++ [97]).length ≤ 11 := by rw [List.length_append]; exact Nat.add_le_add_right hl 1
  refine lexDigits_u (pre := []) (post := []) (qs := []) (pos := 0) (rem := wd ++ [97]) (la := 4) (ld := 3) (y := ⟨kf, kd, kq, kt, kc, ke, nE, []⟩) (st := .ref ms0) B F X (News.part N (five_mem m1 m2 m3 m4 m5)) Tp hcs hdp hun .none ⟨h1, h2, h3, h4, .nil, by rw [tx_len]; omega, by omega, .nil rfl, .inl ⟨rfl, rfl, rfl⟩, hasc, by omega⟩ ?_ ?_
  · intro rt t2 ms q' qs' pos' tp' cq' k1 k2 h' tk' hle hp hq o1 o2 o3 o4 _ _ _ _ F' N'
    rw [e1] at hle N'
    rw [e2] at hq N'
    exact hret0 rt t2 q' qs' pos' tp' cq' k1 k2 ms h' tk' (by rw [tx_len]; omega) hp hq o1 o2 (by omega) F' (News.part N' (fun p hp => by simp only [List.mem_cons, List.not_mem_nil, or_false, List.nil_append, List.append_nil, List.isEmpty_cons] at hp ⊢; rcases hp with h | h | h | h | h | h | h <;> simp [h]))
  · intro rt ms q' qs' pos' tp' cq' h' tk' hle hp hq o1 o2 o3 _ _ _ F' N'
    rw [e1] at hle
    rw [e2] at hq N'
    exact hret1 rt q' qs' pos' tp' cq' ms h' tk' (by rw [tx_len]; omega) hp hq o1 (by omega) F' (News.part N' (fun p hp => by simp only [List.mem_cons, List.not_mem_nil, or_false, List.nil_append, List.append_nil, List.isEmpty_cons] at hp ⊢; rcases hp with h | h | h | h | h | h <;> simp [h]))
theorem lexRandomL {prog : Program} {w : World} {p : Program} {loose : List Str} {mean : ExcName → Option Value} {mg mb : Str → Option Value}
    {dp un : Nat} {gd : Option (List Code)} {cn : Str} {cs : Scope} {a : Addr} {ccd : Value} {cl : List (Str × Addr)} {outer : List Env} {A₀ : Around} {base h₀ : Heap} {L : Addr} {m : Str → Option Value} {s : Shared} {Q E : Value → Shared → Prop}
    {x dx f df q cq : Nat} {kf kd kq kt kc ke : Tok} {nE : Nat} {ms0 : Nat} {z : SioT} {tp : Tok} {news : List (Addr × Obj)} {wd : List Nat}
    (B : Below A₀ base outer h₀) (F : Fr h₀ L s.heap m) (X : (hd.heap_39 w.params).In h₀) (N : News h₀ L s.heap news)
    (Tp : Top p loose mean mg mb h₀) (hcs : cs.kind = .function) (hdp : dp + 8 < recursionLimit) (hun : un + 100 < cLine)
    (m1 : (x, instObj 690 dx) ∈ news) (m2 : (dx, lexObj w ⟨kf, kd, kq, kt, kc, ke, nE, []⟩ f q (.ref ms0) false) ∈ news) (m3 : (f, instObj 569 df) ∈ news) (m4 : (df, sioObj w z ([45, 95, 32, 10] ++ (wd ++ [49])) 0 tp) ∈ news) (m5 : (q, listOf #[] cq) ∈ news) (hside : dx < x ∧ x < df ∧ df < f ∧ f < q) (hall : ∀ c ∈ wd, al c = true) (hl : wd.length ≤ 10)
    (hret : ∀ (rt ms : Nat) (qs' : List Value) pos' tp' cq' h' tk', pos' ≤ 1000 → QRem qs' ([45, 95, 32, 10] ++ (wd ++ [49])) pos' (wd ++ [49]) → q < rt → Fr h₀ L h' m → News h₀ L h' [(rt, tupOf [.none, .ref ms]), (x, instObj 690 dx), (dx, lexObj w ⟨kf, kd, kq, kt, kc, ke, nE, []⟩ f q (.ref ms0) false), (f, instObj 569 df), (df, sioObj w z ([45, 95, 32, 10] ++ (wd ++ [49])) pos' tp'), (q, listOf qs'.toArray cq')] → Q (.ref rt) { s with heap := h', toks := tk' }) :
    wpAny (model prog w) (ktrTop dp un gd cn cs L a ccd cl outer) (call (.ref 673) [.ref x]) Q E s := by
  obtain ⟨h1, h2, h3, h4⟩ := hside
  have hoth : ∀ c ∈ (wd ++ [49]).head?, other c = false := fun c hc => by
    cases wd with
    | nil => rw [← Option.some.inj hc]; decide
    | cons d r => rw [← Option.some.inj hc]; unfold other; rw [hall d (.head _)]; rfl
  have e2 : ([45, 95, 32, 10] ++ (wd ++ [49])).dropWhile other = wd ++ [49] := (take_pred (pr := other) (by decide) hoth).2
  have hasc : ∀ c ∈ [45, 95, 32, 10] ++ (wd ++ [49]), c < 128 := fun c hc => by
    rcases List.mem_append.mp hc with hc | hc
    · exact (by decide : ∀ c ∈ ([45, 95, 32, 10] : List Nat), c < 128) c hc
    · rcases List.mem_append.mp hc with hc | hc
      · exact al_lt (hall c hc)
      · rw [List.mem_singleton.mp hc]; decide
  have hlen : ([45, 95, 32, 10] ++ (wd ++ [49])).length ≤ 15 := by simp only [List.length_append, List.length_cons, List.length_nil]; omega
  refine lexRandom_u (pre := []) (post := []) (qs := []) (pos := 0) (rem := [45, 95, 32, 10] ++ (wd ++ [49])) (la := 4) (ld := 3) (y := ⟨kf, kd, kq, kt, kc, ke, nE, []⟩) (st := .ref ms0) B F X (News.part N (five_mem m1 m2 m3 m4 m5)) Tp hcs hdp hun .none ⟨h1, h2, h3, h4, .nil, by rw [tx_len]; omega, by omega, .nil rfl, .inl ⟨rfl, rfl, rfl⟩, hasc, by omega⟩ ?_ ?_ ?_
  · intro rt ms qs' c r pos' tp' cq' h' tk' he _ hp hq o1 o2 _ _ F' N'
    rw [e2] at he
    rw [← he] at hq
    exact hret rt ms qs' pos' tp' cq' h' tk' hp hq (by omega) F' (News.part N' (fun p hp => by simp only [List.mem_cons, List.not_mem_nil, or_false, List.nil_append, List.append_nil] at hp ⊢; rcases hp with h | h | h | h | h | h <;> simp [h]))
  · intro rt ms qs' c r pos' tp' cq' h' tk' he _ _ hp hq o1 o2 _ _ F' N'
    rw [e2] at he
    rw [← he] at hq
    exact hret rt ms qs' pos' tp' cq' h' tk' hp hq (by omega) F' (News.part N' (fun p hp => by simp only [List.mem_cons, List.not_mem_nil, or_false, List.nil_append, List.append_nil] at hp ⊢; rcases hp with h | h | h | h | h | h <;> simp [h]))
  · intro rt qs' pos' tp' cq' h' tk' he
    rw [e2] at he
    exact absurd he (by simp)
theorem lexReadDL {prog : Program} {w : World} {p : Program} {loose : List Str} {mean : ExcName → Option Value} {mg mb : Str → Option Value}
    {dp un : Nat} {gd : Option (List Code)} {cn : Str} {cs : Scope} {a : Addr} {ccd : Value} {cl : List (Str × Addr)} {outer : List Env} {A₀ : Around} {base h₀ : Heap} {L : Addr} {m : Str → Option Value} {s : Shared} {Q E : Value → Shared → Prop}
    {x dx f df q cq : Nat} {kf kd kq kt kc ke : Tok} {nE : Nat} {ms0 : Nat} {z : SioT} {tp : Tok} {news : List (Addr × Obj)} {l : List Nat} {qs : List Value} {pos c : Nat} {v : Str}
    (B : Below A₀ base outer h₀) (F : Fr h₀ L s.heap m) (X : (hd.heap_39 w.params).In h₀) (N : News h₀ L s.heap news)
    (Tp : Top p loose mean mg mb h₀) (hcs : cs.kind = .function) (hdp : dp + 4 < recursionLimit) (hun : un + 60 < cLine)
    (m1 : (x, instObj 690 dx) ∈ news) (m2 : (dx, lexObj w ⟨kf, kd, kq, kt, kc, ke, nE, []⟩ f q (.ref ms0) false) ∈ news) (m3 : (f, instObj 569 df) ∈ news) (m4 : (df, sioObj w z l pos tp) ∈ news) (m5 : (q, listOf qs.toArray cq) ∈ news) (hside : dx < x ∧ x < df ∧ df < f ∧ f < q) (hq : QRem qs l pos [c]) (hpos : pos ≤ 1000) (hl : l.length ≤ 100) (hv : v = tx [c])
    (hret : ∀ t h' tk', Fr h₀ L h' m → News h₀ L h' [] → Q (.str v t) { s with heap := h', toks := tk' }) :
    wpAny (model prog w) (ktrTop dp un gd cn cs L a ccd cl outer) (call (.ref 616) [.ref x]) Q E s := by
  obtain ⟨h1, h2, h3, h4⟩ := hside
  subst hv
  cases hq with
  | nil hd => exact lexReadD0 (pre := []) (post := []) (y := ⟨kf, kd, kq, kt, kc, ke, nE, []⟩) B F X (News.part N (five_mem m1 m2 m3 m4 m5)) Tp hcs hdp hun .none ⟨h1, h2, h3, h4, .nil, by rw [tx_len]; omega, hpos, hd⟩ fun t h' tk' F' => hret t h' tk' F' fun _ h => nomatch h
  | one hd => exact lexReadD1 (pre := []) (post := []) (y := ⟨kf, kd, kq, kt, kc, ke, nE, []⟩) B F X (News.part N (five_mem m1 m2 m3 m4 m5)) Tp hcs hdp hun .none ⟨h1, h2, h3, h4, .nil, by rw [tx_len]; omega, hpos⟩ fun t h' tk' F' => hret t h' tk' F' fun _ h => nomatch h
theorem lexReadNL {prog : Program} {w : World} {p : Program} {loose : List Str} {mean : ExcName → Option Value} {mg mb : Str → Option Value}
    {dp un : Nat} {gd : Option (List Code)} {cn : Str} {cs : Scope} {a : Addr} {ccd : Value} {cl : List (Str × Addr)} {outer : List Env} {A₀ : Around} {base h₀ : Heap} {L : Addr} {m : Str → Option Value} {s : Shared} {Q E : Value → Shared → Prop}
    {x dx f df q cq : Nat} {kf kd kq kt kc ke : Tok} {nE : Nat} {ms0 : Nat} {z : SioT} {tp : Tok} {news : List (Addr × Obj)} {l wd : List Nat} {qs : List Value} {pos : Nat} {n : Int} {tn : Tok}
    (B : Below A₀ base outer h₀) (F : Fr h₀ L s.heap m) (X : (hd.heap_39 w.params).In h₀) (N : News h₀ L s.heap news)
    (Tp : Top p loose mean mg mb h₀) (hcs : cs.kind = .function) (hdp : dp + 4 < recursionLimit) (hun : un + 60 < cLine)
    (m1 : (x, instObj 690 dx) ∈ news) (m2 : (dx, lexObj w ⟨kf, kd, kq, kt, kc, ke, nE, []⟩ f q (.ref ms0) false) ∈ news) (m3 : (f, instObj 569 df) ∈ news) (m4 : (df, sioObj w z l pos tp) ∈ news) (m5 : (q, listOf qs.toArray cq) ∈ news) (hside : dx < x ∧ x < df ∧ df < f ∧ f < q) (hq : QRem qs l pos (wd ++ [49])) (hpos : pos ≤ 1000) (hl : l.length ≤ 100) (hw : wd.length ≤ 10) (hn : n = ((tx wd).length : Int) + 1)
    (hret : ∀ t h' tk', Fr h₀ L h' m → News h₀ L h' [] → Q (.str (tx wd ++ Str.ofString "1") t) { s with heap := h', toks := tk' }) :
    wpAny (model prog w) (ktrTop dp un gd cn cs L a ccd cl outer) (call (.ref 616) [.ref x, .int n tn]) Q E s := by
  obtain ⟨h1, h2, h3, h4⟩ := hside
  rw [tx_len] at hn
  subst hn
  rw [lit_1, tx_app] at hret
  have e1 : ((wd.length : Int) + 1).toNat = (wd ++ [49]).length := by simp only [List.length_append, List.length_cons, List.length_nil]; omega
  have e2 : ((wd.length : Int) + 1 - 1).toNat = wd.length := by omega
  generalize hr : wd ++ [49] = r at *
  have hlr : r.length = wd.length + 1 := by rw [← hr]; simp
  cases hq with
  | nil hd =>
    refine lexRead0 (pre := []) (post := []) (y := ⟨kf, kd, kq, kt, kc, ke, nE, []⟩) B F X (News.part N (five_mem m1 m2 m3 m4 m5)) Tp hcs hdp hun .none ⟨h1, h2, h3, h4, .nil, by rw [tx_len]; omega, hpos, by omega, by omega⟩ ?_
    intro t tp' h' tk' _ _ F' _
    rw [hd, e1, List.take_length]
    exact hret t h' tk' F' fun _ h => nomatch h
  | one hd =>
    refine lexRead1 (pre := []) (post := []) (y := ⟨kf, kd, kq, kt, kc, ke, nE, []⟩) B F X (News.part N (five_mem m1 m2 m3 m4 m5)) Tp hcs hdp hun .none ⟨h1, h2, h3, h4, .nil, by rw [tx_len]; omega, hpos, by omega, by omega⟩ ?_
    intro t tp' h' tk' _ _ F' _
    rw [hd, e2, List.take_of_length_le (by rw [List.length_cons] at hlr; omega)]
    exact hret t h' tk' F' fun _ h => nomatch h
/-! ### what stands between the law's statements -/
def LawP1 (h₀ : Heap) (L sl : Nat) (s s' : Shared) : Prop :=
  ∃ (u : Str → Option Value) (h : Heap) (tk : Nat) (g : Array GenState), s' = { s with heap := h, toks := tk, gens := g } ∧ AllBare g ∧ Fr h₀ L h (fun y => if y = Str.ofString "script" then some (.ref sl) else u y)
def LawP2 (h₀ : Heap) (L : Nat) (s s' : Shared) : Prop :=
  ∃ (u : Str → Option Value) (h : Heap) (tk : Nat) (g : Array GenState) (wd fg : List Nat) (t1 t2 : Tok), s' = { s with heap := h, toks := tk, gens := g } ∧ AllBare g ∧ (∀ c ∈ wd, al c = true) ∧ wd.length ≤ 8 ∧ (∀ c ∈ fg, dg c = true) ∧ fg.length ≤ 8 ∧
    Fr h₀ L h (fun y => if y = Str.ofString "word" then some (.str (tx wd) t1) else if y = Str.ofString "figures" then some (.str (tx fg) t2) else u y)
theorem bare_push {g : Array GenState} (h : AllBare g) : AllBare (g.push .finished) := fun x hx => by
  rcases Array.mem_push.mp hx with hx | hx
  · exact h x hx
  · rw [hx]; rfl
theorem bare_nil {g : Array GenState} (h : g = #[]) : AllBare g := fun x hx => by subst h; simp at hx
theorem Fr.name {h₀ h : Heap} {L : Addr} {m : Str → Option Value} {k : Str} {v : Value} (F : Fr h₀ L h m) (e : m k = some v) : Fr h₀ L h (fun y => if y = k then some v else m y) := Fr.told F fun y => by
  by_cases hy : y = k
  · rw [if_pos hy, hy, e]
  · rw [if_neg hy]
section
variable {h₀ h : Heap} {L sl : Nat} {s : Shared} {tk : Nat} {g : Array GenState} {m : Str → Option Value} {wd fg : List Nat} {t1 t2 : Tok}
theorem lawP1_mk (F : Fr h₀ L h m) (e : m (Str.ofString "script") = some (.ref sl)) (hb : AllBare g) : LawP1 h₀ L sl s { s with heap := h, toks := tk, gens := g } := ⟨m, h, tk, g, rfl, hb, Fr.name F e⟩
theorem lawP2_mk (F : Fr h₀ L h m) (e1 : m (Str.ofString "word") = some (.str (tx wd) t1)) (e2 : m (Str.ofString "figures") = some (.str (tx fg) t2)) (hb : AllBare g) (h1 : ∀ c ∈ wd, al c = true) (h2 : wd.length ≤ 8) (h3 : ∀ c ∈ fg, dg c = true) (h4 : fg.length ≤ 8) :
    LawP2 h₀ L s { s with heap := h, toks := tk, gens := g } := ⟨m, h, tk, g, wd, fg, t1, t2, rfl, hb, h1, h2, h3, h4, Fr.name (Fr.told (Fr.name F e2) fun y => rfl) (by rw [if_neg (by decide +kernel)]; exact e1) |> fun F' => Fr.told F' fun y => rfl⟩
end
theorem lx_ne_tks2 {prog : Program} {w : World} {A : Around} {E : Value → Shared → Prop} {s : Shared} {a b : Value} {db : PyData} {bs : List Addr} {ks : List (String × List Nat)} {Q : Value → Shared → Prop}
    (ra : ∃ as, Reads s.heap a (.list (ks.map tkDat)) as) (rb : Reads s.heap b db bs) (he : db = .list (ks.map tkDat)) (h : ∀ k ∈ ks, TkOk k) (hu : A.units + 64 < cLine) (hQ : Q (.bool false) s) :
    wpAny (model prog w) A (compareOp .NotEq a b) Q E s := lx_ne_tks ra ⟨bs, he ▸ rb⟩ h hu hQ
theorem lx_ne_tk {prog : Program} {w : World} {A : Around} {E : Value → Shared → Prop} {s : Shared} {a b : Value} {da db : PyData} {as bs : List Addr} {kd : String} {l : List Nat} {Q : Value → Shared → Prop}
    (ra : Reads s.heap a da as) (rb : Reads s.heap b db bs) (ha : da = .tuple [.str (Str.ofString kd), .str (tx l)]) (hb : db = .tuple [.str (Str.ofString kd), .str (tx l)]) (h : TkOk (kd, l)) (hu : A.units + 64 < cLine) (hQ : Q (.bool false) s) :
    wpAny (model prog w) A (compareOp .NotEq a b) Q E s := by
  subst ha hb
  have e : tkDat (kd, l) = .tuple [.str (Str.ofString kd), .str (tx l)] := rfl
  have c := tkDat_can h
  have sh : SeqAt.shaped (tkDat (kd, l)) = true := by
    unfold SeqAt.shaped
    rw [c]
    rfl
  rw [← e] at ra rb
  refine ne_dataH ra rb sh sh hu ?_
  rw [SeqAt.eqv_refl _ c]
  exact hQ
theorem law_end {c : ClaimW} {cl : Str → Option Addr} {mean : ExcName → Option Value} {args : List WData} {s₁ : Shared} {h : Heap} {L : Addr} {m : Str → Option Value} {g : Array GenState} {d : Drawn} {t : Nat} {b : Bool}
    (F : Fr s₁.heap L h m) (hr : ∀ cls, c.raises args cls = false) (hp : c.post args (.bool true) args = true) (hb : AllBare g) (e : b = true) :
    GoodWG c cl mean args s₁ (.ok (.ret (.bool b))) ⟨h, g, d, t, s₁.os⟩ := by
  subst e
  exact ⟨.inl ⟨_, _, [], rfl, hr, ReadsW.bool true, hp, fun _ => ⟨List.nodup_nil, fun _ hm => (nomatch hm)⟩⟩, .of_keep F.keep, rfl, hb⟩
theorem toks_list_ok : ∀ k ∈ [("NUMBER", [49, 50, 51, 52]), ("STRING", [97, 98, 99, 100]), ("STRING", [120, 121, 122, 119])], TkOk k := Toks.ok toks_list (by decide)
theorem toks_list_dat : PyData.list [.tuple [.str (Str.ofString "NUMBER"), .str (Str.ofString "1234")], .tuple [.str (Str.ofString "STRING"), .str (Str.ofString "abcd")], .tuple [.str (Str.ofString "STRING"), .str (Str.ofString "xyzw")]] = .list ([("NUMBER", [49, 50, 51, 52]), ("STRING", [97, 98, 99, 100]), ("STRING", [120, 121, 122, 119])].map tkDat) := by
  have e1 : Str.ofString "1234" = tx [49, 50, 51, 52] := by decide +kernel
  have e2 : Str.ofString "abcd" = tx [97, 98, 99, 100] := by decide +kernel
  have e3 : Str.ofString "xyzw" = tx [120, 121, 122, 119] := by decide +kernel
  rw [e1, e2, e3]
  rfl
end
section
theorem reset41 : True := by
  w_top off
  trivial
/-! ### the lines (local) -/
local macro_rules | `(tactic| k_in) => `(tactic| first | with_reducible assumption | exact Frag.In.keeps (by with_reducible assumption) (Fr.keep (by with_reducible assumption)) | exact Frag.In.keeps (by with_reducible assumption) (Fr.keep (by k_asm)))
local macro_rules | `(tactic| k_room) => `(tactic| ktr_room)
/- entry into a def whose ledger is a part of the caller's -/
local macro_rules | `(tactic| ktr_enter) => `(tactic| (refine' code_lx ?k1 ?k2 ?k3 ?k4 ?kO ?k5 ?kA ?kF ?kK ?k6 ?k7 ?k8 ?k9 ?kB ?_ ?c2 ?c3 ?c4 ?c5; (case kA => exact rfl); (case kF => exact rfl); (case kK => first | exact rfl | assumption); (case k1 => k_asm); (case k2 => k_asm); (case k3 => k_asm); (case k4 => k_asm); (case kO => assumption); (case k5 => k_asm); (case k6 => k_is); (case k7 => k_is); (case k8 => k_room); (case k9 => first | exact BindsTo.of_eq rfl | exact binds_K (by k_in) rfl (by k_is) rfl rfl rfl | fail "k_enter: no rule for these arguments"); (case c5 => decide); (case kB => exact locs rfl); (case c2 => exact rfl); (case c3 => exact rfl); (case c4 => exact rfl); k_whole; intro g' L' h' FG' F' N' B' X' T' l1; (try k_lt l1); (try dsimp only); (try k_lift B'); (try k_fold)))
/- apartness -/
local macro_rules | `(tactic| ktr_rel) => `(tactic| first | assumption | ((try simp only [List.cons_append, List.nil_append, List.append_nil]); repeat (first | exact LxOff.nil | refine LxOff.cons (by k_all) ?_)))
/- a dict of six written entries and a tail -/
local macro_rules | `(tactic| k_get) => `(tactic| first
  | (refine' get6_hit ?hm ?h; (case hm => assumption); (case h => k_get))
  | (refine' get6_miss ?hm ?n1 ?n2 ?h; (case hm => assumption); (case n1 => decide +kernel); (case n2 => decide +kernel); (case h => k_get))
  | (refine' get6_is ?hm ?h ?h2; (case hm => assumption); (case h => k_get); (case h2 => (intro h9; exact absurd (h9.symm.trans (by k_get)) (by nofun)))))
local macro_rules | `(tactic| k_put) => `(tactic| (refine' put6 ?hm ?h; (case hm => assumption); (case h => k_put)))
local macro_rules | `(tactic| walk_at "setAttr ref") => `(tactic| (k_here; k_dflt ((refine' set_dict ?k1 ?k2 ?k3 ?k4 ?k5 ?k6 ?k7 ?k8 ?k9 ?k10 ?k11 ?k12 ?k13 ?_; (case k1 => k_asm); (case k2 => k_asm); (case k3 => k_asm); (case k4 => k_inst); (case k5 => exact rfl); (case k6 => k_is); (case k7 => k_is); (case k8 => k_is); (case k9 => k_is); (case k10 => k_get); (case k11 => k_put); (case k12 => k_upd); (case k13 => first | exact Nat.le_of_ble_eq_true rfl | (have h9 := MoreOk.len (by assumption); simp only [List.length_cons]; omega)); k_whole; intro h' F' N'; (try k_sweep)))))
local macro_rules | `(tactic| walk_at "call builtin:list.extend") => `(tactic| (k_here; (with_reducible show wpAny _ _ (call (Value.builtin _) [Value.ref _, Value.str _ _]) _ _ _); k_dflt (first
  | (refine' lx_extend0 ?hh ?F ?N ?D ?_; (case hh => exact rfl); (case F => k_asm); (case N => k_asm); (case D => k_mem); intro h' tk' F' N'; (try k_sweep))
  | (refine' lx_extend1 ?hh ?F ?N ?U ?_; (case hh => exact rfl); (case F => k_asm); (case N => k_asm); (case U => k_updF); intro h' tk' u' c' F' N'; (try dsimp only at N'); (try k_sweep)))))
local macro_rules | `(tactic| walk_at "call type:list") => `(tactic| (k_here; (with_reducible show wpAny _ _ (call (Value.type _) [Value.str _ _]) _ _ _); k_dflt (first
  | (refine' lx_list0 ?hh ?F ?N ?_; (case hh => exact rfl); (case F => k_asm); (case N => k_asm); intro p' h' tk' c' F' N' l1; (try k_lt l1); (try k_sweep))
  | (refine' lx_list1 ?hh ?F ?N ?_; (case hh => exact rfl); (case F => k_asm); (case N => k_asm); intro p' h' tk' u' c' F' N' l1; (try k_lt l1); (try k_sweep)))))
local macro_rules | `(tactic| tb_rel) => `(tactic| (refine' cb_drop ?cN ?cS; (case cN => assumption); (case cS => (repeat (first | exact List.forall_mem_nil _ | refine List.forall_mem_cons.mpr ⟨by k_mem, ?_⟩)))))
/- the law's lines (printed by genz.py) -/
local macro_rules | `(tactic| tb_start) => `(tactic| ((repeat' apply And.intro) <;> first | assumption | omega | rfl | l_fact))
local macro_rules | `(tactic| k_all) => `(tactic| assumption)
local macro_rules | `(tactic| walk_at "getMethod str") => `(tactic| (k_here; with_reducible refine lx_m_encode ?_))
local macro_rules | `(tactic| walk_at "call builtin:str.encode") => `(tactic| (k_here; (with_reducible show wpAny _ _ (call (Value.builtin _) [Value.str _ _]) _ _ _); k_dflt (refine' lx_encode ?h1 ?h2 ?_; (case h1 => assumption); (case h2 => first | assumption | omega); intro t' k')))
local macro_rules | `(tactic| walk_at "call ref") => `(tactic| (k_here; (with_reducible show wpAny _ _ (call (Value.ref 700) [Value.ref _, Value.int _ _] []) _ _ _); k_dflt (refine' numC (pre := []) ?k1 ?k2 ?k3 ?k4 ?k5 ?kK ?kd ?ku ?kO ?kS ?_; (case kS => tb_start); (case k4 => k_asm); (case k1 => k_asm); (case k2 => k_asm); (case k3 => k_asm); (case k5 => k_asm); (case kK => first | exact rfl | assumption); (case kd => ktr_room); (case ku => ktr_units); (case kO => exact LxOff.nil); intro r' t' h' tk' F' N'; (try simp only [List.cons_append, List.nil_append] at N'); (try dsimp only); (try k_fold); (try k_sweep))))
local macro_rules | `(tactic| walk_at "call ref") => `(tactic| (k_here; (with_reducible show wpAny _ _ (call (Value.ref 705) [Value.str _ _, Value.int _ _, Value.int _ _] []) _ _ _); k_dflt (first | (refine' runL ?k1 ?k2 ?k3 ?k4 ?k5 ?kK ?kd ?ku ?ks ?kt ?_; (case k4 => k_asm); (case k1 => k_asm); (case k2 => k_asm); (case k3 => k_asm); (case k5 => k_asm); (case kK => first | exact rfl | assumption); (case kd => ktr_room); (case ku => ktr_units); (case ks => first | omega | l_fact); (case kt => first | omega | l_fact); intro l' t' h' tk' hp' hl' hz' F' N'; (try k_fold); (try k_sweep)) | (refine' runF ?k1 ?k2 ?k3 ?k4 ?k5 ?kK ?kd ?ku ?ks ?kt ?_; (case k4 => k_asm); (case k1 => k_asm); (case k2 => k_asm); (case k3 => k_asm); (case k5 => k_asm); (case kK => first | exact rfl | assumption); (case kd => ktr_room); (case ku => ktr_units); (case ks => first | omega | l_fact); (case kt => first | omega | l_fact); intro l' t' h' tk' hp' hl' hz' F' N'; (try k_fold); (try k_sweep)))))
local macro_rules | `(tactic| walk_at "call ref") => `(tactic| (k_here; (with_reducible show wpAny _ _ (call (Value.ref 710) [Value.ref _] []) _ _ _); k_dflt (refine' textC2 ?k1 ?k2 ?k3 ?k4 ?k5 ?kK ?kd ?ku ?kS ?_; (case k4 => k_asm); (case k1 => k_asm); (case k2 => k_asm); (case k3 => k_asm); (case k5 => k_asm); (case kK => first | exact rfl | assumption); (case kd => ktr_room); (case ku => ktr_units); (case kS => tb_start); intro c' r' t' h' tk' hp' hq' hl' hz' F' N'; (try k_fold); (try k_sweep))))
local macro_rules | `(tactic| walk_at "call ref") => `(tactic| (k_here; (with_reducible show wpAny _ _ (call (Value.ref 690) [Value.str _ _] []) _ _ _); k_dflt (refine' lexNewS ?k1 ?k2 ?k3 ?k4 ?k5 ?kK ?kd ?ku ?hv ?hl ?_; (case k4 => k_asm); (case k1 => k_asm); (case k2 => k_asm); (case k3 => k_asm); (case k5 => k_asm); (case kK => first | exact rfl | assumption); (case kd => ktr_room); (case ku => ktr_units); (case hv => with_reducible first | exact lit_w | exact lit_f | exact lit_r | exact lit_list | exact rfl); (case hl => first | assumption | omega | decide | (simp only [List.length_append, List.length_cons, List.length_nil]; omega)); intro x' dx' f' df' q' ms' cq' kf' kd' kq' kt' kc' ke' nE' z' tp' h' tk' o1 o2 o3 o4 o5 F' N'; (try dsimp only); (try k_fold); (try k_sweep))))
local macro_rules | `(tactic| walk_at "call ref") => `(tactic| (k_here; (with_reducible show wpAny _ _ (call (Value.ref 690) [Value.bytes _ _] []) _ _ _); k_dflt (refine' lexNewB ?k1 ?k2 ?k3 ?k4 ?k5 ?kK ?kd ?ku ?hl ?_; (case k4 => k_asm); (case k1 => k_asm); (case k2 => k_asm); (case k3 => k_asm); (case k5 => k_asm); (case kK => first | exact rfl | assumption); (case kd => ktr_room); (case ku => ktr_units); (case hl => tb_start); intro x' dx' f' df' q' ms' cq' kf' kd' kq' kt' kc' ke' nE' z' tp' h' tk' o1 o2 o3 o4 o5 F' N'; (try dsimp only); (try k_fold); (try k_sweep))))
local macro_rules | `(tactic| walk_at "setAttr ref") => `(tactic| (k_here; (with_reducible show wpAny _ _ (setAttr (Value.ref _) (Str.ofString "minalpha") _) _ _ _); k_dflt (refine' lx_set_aL ?F ?X ?N ?m1 ?m2 ?m3 ?m4 ?m5 ?m6 ?hS ?_; (case F => k_asm); (case X => k_in); (case N => k_asm); (case m1 => k_mem); (case m2 => k_mem); (case m3 => k_mem); (case m4 => k_mem); (case m5 => k_mem); (case m6 => k_mem); (case hS => tb_start); intro h' k' nE' tk' F' N'; (try dsimp only); (try k_sweep))))
local macro_rules | `(tactic| walk_at "setAttr ref") => `(tactic| (k_here; (with_reducible show wpAny _ _ (setAttr (Value.ref _) (Str.ofString "mindigits") _) _ _ _); k_dflt (refine' lx_set_bL ?F ?X ?N ?m1 ?m2 ?m3 ?m4 ?m5 ?m6 ?hS ?_; (case F => k_asm); (case X => k_in); (case N => k_asm); (case m1 => k_mem); (case m2 => k_mem); (case m3 => k_mem); (case m4 => k_mem); (case m5 => k_mem); (case m6 => k_mem); (case hS => tb_start); intro h' k' nE' tk' F' N'; (try dsimp only); (try k_sweep))))
local macro_rules | `(tactic| walk_at "call ref") => `(tactic| (k_here; with_reducible refine lx_app ?_; (with_reducible show wpAny _ _ (call (Value.ref 608) [Value.ref _] []) _ _ _); k_dflt (refine' lxParseL ?k1 ?k2 ?k3 ?k4 ?k5 ?kK ?kd ?ku ?m1 ?m2 ?m3 ?m4 ?m5 ?m6 ?hmi ?kS ?_; (case k4 => k_asm); (case k1 => k_asm); (case k2 => k_asm); (case k3 => k_asm); (case k5 => k_asm); (case kK => first | exact rfl | assumption); (case kd => ktr_room); (case ku => ktr_units); (case m1 => k_mem); (case m2 => k_mem); (case m3 => k_mem); (case m4 => k_mem); (case m5 => k_mem); (case m6 => k_mem); (case hmi => first | exact .inl ⟨rfl, rfl, rfl⟩ | exact .inr ⟨_, _, _, _, rfl⟩); (case kS => tb_start); intro ks' G' h' tk' gens' hT' hO' hl' F' N' GA'; (try k_fold))))
local macro_rules | `(tactic| walk_at "call type:list") => `(tactic| (k_here; (with_reducible show wpAny _ _ (call (Value.type _) [Value.ref _]) _ _ _); k_dflt (refine' lxListL ?k1 ?k2 ?k3 ?k4 ?k5 ?kK ?kd ?ku ?m1 ?m2 ?m3 ?m4 ?m5 ?m6 ?hS ?hT ?hA ?hl ?_; (case k4 => k_asm); (case k1 => k_asm); (case k2 => k_asm); (case k3 => k_asm); (case k5 => k_asm); (case kK => first | exact rfl | assumption); (case kd => ktr_room); (case ku => ktr_units); (case m1 => k_mem); (case m2 => k_mem); (case m3 => k_mem); (case m4 => k_mem); (case m5 => k_mem); (case m6 => k_mem); (case hS => tb_start); (case hT => with_reducible exact toks_list); (case hA => decide); (case hl => decide); intro S' es' c' h' tk' he' F' N'; (try dsimp only); (try k_fold))))
local macro_rules | `(tactic| walk_at "call type:list") => `(tactic| (k_here; (with_reducible show wpAny _ _ (call (Value.type _) [Value.ref _]) _ _ _); k_dflt (refine' lx_list_at ?G ?kK ?kd ?ku ?kl ?_; (case G => assumption); (case kK => first | exact rfl | assumption); (case kd => ktr_room); (case ku => ktr_units); (case kl => assumption); intro S' es' c' h' tk' he' F' N' _ _ _; (try dsimp only); (try k_fold))))
local macro_rules | `(tactic| walk_at "call ref") => `(tactic| (k_here; (with_reducible show wpAny _ _ (call (Value.ref 717) [Value.str _ _, Value.int _ _, Value.int _ _] []) _ _ _); k_dflt (refine' runsL ?k1 ?k2 ?k3 ?k4 ?k5 ?kK ?kd ?ku ?kS ?kT ?_; (case k4 => k_asm); (case k1 => k_asm); (case k2 => k_asm); (case k3 => k_asm); (case k5 => k_asm); (case kK => first | exact rfl | assumption); (case kd => ktr_room); (case ku => ktr_units); (case kS => tb_start); (case kT => assumption); intro D' es' c' h' tk' he' F' N'; (try dsimp only); (try k_fold))))
local macro_rules | `(tactic| walk_at "compareOp NotEq ref ref") => `(tactic| (k_here; (with_reducible show wpAny _ _ (compareOp CmpOp.NotEq (Value.ref _) (Value.ref _)) _ _ _); k_dflt (refine' lx_ne_tk ?ra ?rb ?ha ?hb ?hk ?hu ?_; (case ra => ked_read); (case rb => ked_read); (case ha => exact rfl); (case hb => exact rfl); (case hk => first | exact ⟨.inl rfl, fun c hc => al_lt ((by assumption : ∀ c ∈ _, al c = true) c hc)⟩ | exact ⟨.inr rfl, fun c hc => dg_lt ((by assumption : ∀ c ∈ _, dg c = true) c hc)⟩); (case hu => ke_room))))
local macro_rules | `(tactic| walk_at "compareOp NotEq ref ref") => `(tactic| (k_here; (with_reducible show wpAny _ _ (compareOp CmpOp.NotEq (Value.ref _) (Value.ref _)) _ _ _); (rename News _ _ _ _ => nN); k_dflt (refine' lx_ne_tks2 ?ra ?rb ?he ?hk ?hu ?_; (case ra => exact reads_tks nN (by k_mem) (fun p hp => by repeat (first | exact hp | refine .tail _ ?_)) (by assumption)); (case rb => ked_read); (case he => with_reducible exact toks_list_dat); (case hk => exact toks_list_ok); (case hu => ke_room); (try dsimp only))))
local macro_rules | `(tactic| walk_at "compareOp NotEq ref ref") => `(tactic| (k_here; (with_reducible show wpAny _ _ (compareOp CmpOp.NotEq (Value.ref _) (Value.ref _)) _ _ _); (rename News _ _ _ _ => nN); k_dflt (refine' lx_ne_tks ?ra ?rb ?hk ?hu ?_; (case ra => exact reads_tks nN (.tail _ (List.mem_append_right _ (.head _))) (fun p hp => .tail _ (List.mem_append_right _ (.tail _ (List.mem_append_left _ hp)))) (by assumption)); (case rb => exact reads_tks nN (.head _) (fun p hp => .tail _ (List.mem_append_left _ hp)) (by assumption)); (case hk => assumption); (case hu => ke_room))))
local macro_rules | `(tactic| walk_at "call ref") => `(tactic| (k_here; with_reducible refine lx_app ?_; (with_reducible show wpAny _ _ (call (Value.ref 687) [Value.ref _] []) _ _ _); k_dflt (refine' lexAlphaL ?k1 ?k2 ?k3 ?k4 ?k5 ?kK ?kd ?ku ?m1 ?m2 ?m3 ?m4 ?m5 ?hS ?hA ?hl ?_ ?_; (case k4 => k_asm); (case k1 => k_asm); (case k2 => k_asm); (case k3 => k_asm); (case k5 => k_asm); (case kK => first | exact rfl | assumption); (case kd => ktr_room); (case ku => ktr_units); (case m1 => k_mem); (case m2 => k_mem); (case m3 => k_mem); (case m4 => k_mem); (case m5 => k_mem); (case hS => tb_start); (case hA => assumption); (case hl => omega); all_goals (intros; (with_reducible rename News _ _ _ _ => N9); (try dsimp only); (try k_fold); (try k_sweep)))))
local macro_rules | `(tactic| walk_at "call ref") => `(tactic| (k_here; with_reducible refine lx_app ?_; (with_reducible show wpAny _ _ (call (Value.ref 680) [Value.ref _] []) _ _ _); k_dflt (refine' lexDigitsL ?k1 ?k2 ?k3 ?k4 ?k5 ?kK ?kd ?ku ?m1 ?m2 ?m3 ?m4 ?m5 ?hS ?hA ?hl ?_ ?_; (case k4 => k_asm); (case k1 => k_asm); (case k2 => k_asm); (case k3 => k_asm); (case k5 => k_asm); (case kK => first | exact rfl | assumption); (case kd => ktr_room); (case ku => ktr_units); (case m1 => k_mem); (case m2 => k_mem); (case m3 => k_mem); (case m4 => k_mem); (case m5 => k_mem); (case hS => tb_start); (case hA => assumption); (case hl => omega); all_goals (intros; (with_reducible rename News _ _ _ _ => N9); (try dsimp only); (try k_fold); (try k_sweep)))))
local macro_rules | `(tactic| walk_at "call ref") => `(tactic| (k_here; with_reducible refine lx_app ?_; (with_reducible show wpAny _ _ (call (Value.ref 673) [Value.ref _] []) _ _ _); k_dflt (refine' lexRandomL ?k1 ?k2 ?k3 ?k4 ?k5 ?kK ?kd ?ku ?m1 ?m2 ?m3 ?m4 ?m5 ?hS ?hA ?hl ?_; (case k4 => k_asm); (case k1 => k_asm); (case k2 => k_asm); (case k3 => k_asm); (case k5 => k_asm); (case kK => first | exact rfl | assumption); (case kd => ktr_room); (case ku => ktr_units); (case m1 => k_mem); (case m2 => k_mem); (case m3 => k_mem); (case m4 => k_mem); (case m5 => k_mem); (case hS => tb_start); (case hA => assumption); (case hl => omega); intros; (with_reducible rename News _ _ _ _ => N9); (try dsimp only); (try k_fold); (try k_sweep))))
local macro_rules | `(tactic| walk_at "call ref") => `(tactic| (k_here; with_reducible refine lx_app ?_; (with_reducible show wpAny _ _ (call (Value.ref 616) [Value.ref _] []) _ _ _); k_dflt (refine' lexReadDL ?k1 ?k2 ?k3 ?k4 ?k5 ?kK ?kd ?ku ?m1 ?m2 ?m3 ?m4 ?m5 ?hS ?hq ?hp ?hl ?hv ?_; (case k4 => k_asm); (case k1 => k_asm); (case k2 => k_asm); (case k3 => k_asm); (case k5 => k_asm); (case kK => first | exact rfl | assumption); (case kd => ktr_room); (case ku => ktr_units); (case m1 => k_mem); (case m2 => k_mem); (case m3 => k_mem); (case m4 => k_mem); (case m5 => k_mem); (case hS => tb_start); (case hq => assumption); (case hp => assumption); (case hl => first | assumption | omega | decide | (simp only [List.length_append, List.length_cons, List.length_nil]; omega)); (case hv => with_reducible first | exact lit_ex | exact lit_a); intro t' h' tk' F' N'; (try dsimp only); (try k_fold))))
local macro_rules | `(tactic| walk_at "call ref") => `(tactic| (k_here; (with_reducible show wpAny _ _ (call (Value.ref 616) [Value.ref _, Value.int _ _] []) _ _ _); k_dflt (refine' lexReadNL ?k1 ?k2 ?k3 ?k4 ?k5 ?kK ?kd ?ku ?m1 ?m2 ?m3 ?m4 ?m5 ?hS ?hq ?hp ?hl ?hw ?hn ?_; (case k4 => k_asm); (case k1 => k_asm); (case k2 => k_asm); (case k3 => k_asm); (case k5 => k_asm); (case kK => first | exact rfl | assumption); (case kd => ktr_room); (case ku => ktr_units); (case m1 => k_mem); (case m2 => k_mem); (case m3 => k_mem); (case m4 => k_mem); (case m5 => k_mem); (case hS => tb_start); (case hq => assumption); (case hp => assumption); (case hl => first | assumption | omega | decide | (simp only [List.length_append, List.length_cons, List.length_nil]; omega)); (case hw => omega); (case hn => first | rfl | omega); intro t' h' tk' F' N'; (try dsimp only); (try k_fold))))
set_option maxHeartbeats 8000000 in
theorem lawD : PySem.Challenge.rw_gr5004_01.Holds := hd (by
  k_fill
  intro w s₀ s₁ mg mb G Y fa o pm cd doc dV kV ho hd hcd hD hmg hg args vals as hpre hlay hrd hwl hlo
  have KX := kIn_of Y
  have X := (Ground.X G).1
  have V := (Ground.X G).2
  try w_nolog (first | (have GL := glob_more (Ground.glob G (by first | k_qdec | decide +kernel) (by first | k_qdec | decide +kernel)) V) | (have GL := glob_more (Ground.glob G (by decide +kernel)) V))
  refine Ground.open G ?_
  intro T B D TE TW
  try (refine guard_noD D (by decide +kernel) ?_; clear D)
  obtain ⟨_, _, M⟩ := bmod_of_top T
  have TA := at_of_top T
  try (obtain ⟨_, _, he, B0⟩ := based_of_top T rfl hmg ho hd; have he' : cd = _ := he; subst he'; clear he)
  clear hmg
  wrow_args hpre hlay hrd hwl hlo
  first | refine callC_kw (enter_call ?_) | refine enter_call ?_ | refine callC_kw (enter_callW ?_) | refine enter_callW ?_ | w_how
  w_top on
  have K0 := below_caller (Top.heap T)
  w_call any ho hd hcd hD T F
  clear hd TA
  k_drop
  try k_fold
  rename ¬ _ < _ => hlen
  rename IntsAre _ _ => hI
  have hlen' := hlen
  clear hcd hD Y G TE TW
  dsimp only
  generalize PySem.Challenge.rw_gr5004_01.row.prog = prg
  rename Heap.IsList _ _ _ => hS
  rename ReadsAll _ _ _ _ => ra
  rename Fr _ _ _ _ => F
  rename News _ _ _ [] => N
  obtain ⟨sl, vs, ns, F, hS, hI, hn⟩ : ∃ (sl : Nat) (vs : List Value) (ns : List Int), Fr s₁.heap s₁.heap.objs.size _ (fun y => if y = Str.ofString "script" then some (.ref sl) else (fun _ => none) y) ∧ s₁.heap.IsList sl vs.toArray ∧ IntsAre vs ns ∧ ns.length ≤ 63 :=
    ⟨_, _, _, Fr.told F fun y => by by_cases h : y = Str.ofString "script" <;> simp [h], hS, hI, by omega⟩
  clear hlen hlen'
  have hb0 : AllBare s₁.gens := bare_nil hg
  refine lx_cut 5 (LawP1 s₁.heap s₁.heap.objs.size sl s₁) ?_ ?_
  · dsimp only [List.take_succ_cons, List.take_zero]
    k_steps
    all_goals exact lawP1_mk (by assumption) (by kernel_rfl) (bare_push hb0)
  · clear F N hb0
    rintro s' ⟨u, h', tk', g', rfl, hb, F'⟩
    have N' : News s₁.heap s₁.heap.objs.size h' [] := fun _ h => nomatch h
    simp only [List.drop_succ_cons, List.drop_zero]
    refine lx_cut 1 (LawP1 s₁.heap s₁.heap.objs.size sl s₁) ?_ ?_
    · dsimp only [List.take_succ_cons, List.take_zero]
      k_steps
      all_goals exact lawP1_mk (by assumption) (by kernel_rfl) (bare_push hb)
    clear hb F' N'
    rintro s' ⟨u, h', tk', g', rfl, hb, F'⟩
    have N' : News s₁.heap s₁.heap.objs.size h' [] := fun _ h => nomatch h
    simp only [List.drop_succ_cons, List.drop_zero]
    refine lx_cut 2 (LawP2 s₁.heap s₁.heap.objs.size s₁) ?_ ?_
    · dsimp only [List.take_succ_cons, List.take_zero]
      k_steps
      all_goals exact lawP2_mk (by assumption) (by rfl) (by rfl) hb (fun c hc => poolL_al ((by assumption : ∀ c ∈ _, PoolL c) c hc)) (by rw [← tx_len]; assumption) (fun c hc => poolF_dg ((by assumption : ∀ c ∈ _, PoolF c) c hc)) (by rw [← tx_len]; assumption)
    clear hb F' N'
    rintro s' ⟨u, h', tk', g', wd, fg, t1, t2, rfl, hb, hw, hwl, hf, hfl, F'⟩
    have N' : News s₁.heap s₁.heap.objs.size h' [] := fun _ h => nomatch h
    simp only [List.drop_succ_cons, List.drop_zero]
    refine lx_cut 2 (LawP2 s₁.heap s₁.heap.objs.size s₁) ?_ ?_
    · dsimp only [List.take_succ_cons, List.take_zero]
      have hwz : (tx wd).length = wd.length := tx_len wd
      have hwz2 : (tx wd).length ≤ 8 := by omega
      k_steps
      all_goals exact lawP2_mk (t1 := t1) (t2 := t2) (by assumption) (by kernel_rfl) (by kernel_rfl) hb hw hwl hf hfl
    clear hb F' N' hw hwl hf hfl
    rintro s' ⟨u, h', tk', g', wd, fg, t1, t2, rfl, hb, hw, hwl, hf, hfl, F'⟩
    have N' : News s₁.heap s₁.heap.objs.size h' [] := fun _ h => nomatch h
    simp only [List.drop_succ_cons, List.drop_zero]
    have hwz : (tx wd).length = wd.length := tx_len wd
    have hwz2 : (tx wd).length ≤ 8 := by omega
    have hfz : (tx fg).length = fg.length := tx_len fg
    have hfz2 : (tx fg).length ≤ 8 := by omega
    refine lx_cut 2 (LawP2 s₁.heap s₁.heap.objs.size s₁) ?_ ?_
    · dsimp only [List.take_succ_cons, List.take_zero]
      k_steps
      all_goals exact lawP2_mk (t1 := t1) (t2 := t2) (by assumption) (by kernel_rfl) (by kernel_rfl) hb hw hwl hf hfl
    clear hb F' N' hw hwl hf hfl hwz hwz2 hfz hfz2
    rintro s' ⟨u, h', tk', g', wd, fg, t1, t2, rfl, hb, hw, hwl, hf, hfl, F'⟩
    have N' : News s₁.heap s₁.heap.objs.size h' [] := fun _ h => nomatch h
    simp only [List.drop_succ_cons, List.drop_zero]
    have hwz : (tx wd).length = wd.length := tx_len wd
    have hwz2 : (tx wd).length ≤ 8 := by omega
    k_steps
    all_goals exact law_end (by assumption) (fun _ => rfl) (by first | rfl | wrow_post) hb (beq_self_eq_true _))
end
end Mine
theorem PySem.Challenge.cw_gr5004_01_holds : PySem.Challenge.rw_gr5004_01.Holds :=
  Mine.lawD
