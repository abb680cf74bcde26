import PyProof.Rows.All
import Wide.All
import OpenK.AllK
import Wide.FinOn
import PyProof.IsiStr
import Lean
import PySem.Challenge.RW_rs0071_01

set_option Elab.async false

section
open PySem PySem.W PyProof.Rows PySem.Calls
namespace Mine

/-! ## part Hd -/
section
open PySem PySem.W PyProof.Rows
set_option maxRecDepth 100000 in
set_option maxHeartbeats 8000000 in
open_top hd for PySem.Challenge.rw_rs0071_01
end

/-! ## part Base -/
section
open PySem PySem.W PyProof.Rows PySem.Calls

noncomputable abbrev PR : Program := PySem.Challenge.rw_rs0071_01.row.prog

section
variable {prog : Program} {w : World} {A : Around} {E : Value → Shared → Prop} {s : Shared} {K : Frag}

/-- a call of a def of the text: its body, in a frame of its own over the caller's whole heap -/
theorem enter {Q : Value → Shared → Prop} {name qual : Str} {params : Arguments} {body : List Stmt} {scope : Scope} {dV kV doc pm cdv ct oc : Value} {an od : Option Addr} {osl : Array (Option Value)} {f : Addr} {pos : List Value} {kw : List (Str × Value)} {binds : List (Str × Value)}
    (X : K.In s.heap) (hlim : s.heap.NoLimit)
    (ho : K.lookup f = some ⟨oc, od, .func (fnOf name qual params body scope dV kV doc pm an cdv ct), osl⟩) (hcd : codeIn K cdv qual = true) (hroom : A.depth < recursionLimit)
    (hbind : BindsTo s (fnOf name qual params body scope dV kV doc pm an cdv ct) ⟨pos, kw⟩ binds) (hloc : ∀ y ∈ binds, scope.names.lookup y.1 = some .local)
    (h : ∀ L h₁ tk₁, Fr s.heap L h₁ (fun y => binds.reverse.lookup y) → News s.heap L h₁ [] →
      wpAny (model prog w) (A.deeper (envOf qual scope L f cdv)) (execs body (envOf qual scope L f cdv))
        (fun fl s' => Q (match fl with | .ret v => v | _ => .none) s')
        (fun _ _ => False)
        { s with heap := h₁, toks := tk₁ })
    (hco : scope.isCoroutine = false) (hgen : scope.isGenerator = false) (hk : scope.kind = .function)
    (hcell : ∀ x ∈ scope.names, x.2 ≠ .cell) : wpAny (model prog w) A (call (.ref f) pos kw) Q E s := by
  refine wpAny_call ?_
  refine codeAny_call_def (fd := fnOf name qual params body scope dV kV doc pm an cdv ct) (body := body) (binds := binds) hroom (X _ _ ho) rfl hlim (codeRec_of X hcd) rfl hbind hcell hloc (fun h₁ hns hk₁ => ?_) hco hgen hk
  exact wpAny_mono (h s.heap.objs.size h₁ _ ⟨hns, hk₁, Nat.le_refl _⟩ News.nil) (fun fl s' hl => hl) fun _ _ y => y.elim
end

/-- the frame's facts behind a call that keeps all -/
theorem Fr.kept {h₀ h h' : Heap} {L : Addr} {m : Str → Option Value} (F : Fr h₀ L h m) (k : ∀ b o, h.get? b = some o → h'.get? b = some o) : Fr h₀ L h' m :=
  ⟨F.ns.keeps k, fun b o e => k b o (F.keep b o e), F.above⟩
theorem News.kept {h₀ h h' : Heap} {L : Addr} {news : List (Addr × Obj)} (N : News h₀ L h news) (k : ∀ b o, h.get? b = some o → h'.get? b = some o) : News h₀ L h' news :=
  fun p hp => ⟨k _ _ (N p hp).1, (N p hp).2⟩

theorem kept_of {s : Shared} {h' : Heap} {L : Addr} {tk : Nat} {m : Str → Option Value} (F : Fr s.heap L h' m) : Keeps s { s with heap := h', toks := tk } := ⟨h', tk, rfl, F.keep⟩

theorem filled : PySem.Challenge.rw_rs0071_01 = PySem.Challenge.rw_rs0071_01 ∧ Mine.hd.heap_39 = Mine.hd.heap_39 := by
  k_fill
  w_on
  exact ⟨rfl, rfl⟩
end

/-! ## part Base2 -/
section
open PySem PySem.W PyProof.Rows PySem.Calls
/-- what every call of the text's own defs finds; n: how deep it may still go -/
structure Rd (n : Nat) (w : World) (A : Around) (h : Heap) : Prop where
  X : (Mine.hd.heap_39 w.params).In h
  T : ∃ p loose mg mb, TopRead p loose mg mb h
  dep : A.depth + n ≤ 500
  un : A.units + 10 * n ≤ 500
  hh : A.handled = none
theorem Rd.keeps {n : Nat} {w : World} {A : Around} {h h' : Heap} (R : Rd n w A h) (k : ∀ b o, h.get? b = some o → h'.get? b = some o) : Rd n w A h' :=
  ⟨R.X.keeps k, let ⟨p, l, mg, mb, T⟩ := R.T; ⟨p, l, mg, mb, T.keeps k⟩, R.dep, R.un, R.hh⟩
theorem Rd.deeper {n : Nat} {w : World} {A : Around} {h : Heap} (R : Rd (n + 1) w A h) (env : Env) : Rd n w (A.deeper env) h :=
  ⟨R.X, R.T, by have := R.dep; show A.depth + 1 + n ≤ 500; omega, by have := R.un; show A.units + 3 + 10 * n ≤ 500; omega, R.hh⟩
theorem Rd.less {n m : Nat} {w : World} {A : Around} {h : Heap} (R : Rd n w A h) (hm : m ≤ n) : Rd m w A h :=
  ⟨R.X, R.T, by have := R.dep; omega, by have := R.un; omega, R.hh⟩
noncomputable def Post (s : Shared) (P : Value → Shared → Prop) (v : Value) (s' : Shared) : Prop := Keeps s s' ∧ P v s'
/-- what a contract says -/
noncomputable def Ok (w : World) (A : Around) (t : Sem Value) (P : Value → Shared → Prop) (s : Shared) : Prop :=
  wpAny (model PR w) A t (Post s P) (fun _ _ => False) s
theorem Post.mk {s : Shared} {P : Value → Shared → Prop} {v : Value} {h' : Heap} {tk : Nat} {L : Addr} {m : Str → Option Value} (F : Fr s.heap L h' m) (h : P v { s with heap := h', toks := tk }) : Post s P v { s with heap := h', toks := tk } := ⟨kept_of F, h⟩
theorem Ok.use {w : World} {A : Around} {t : Sem Value} {P : Value → Shared → Prop} {s : Shared} {h₀ : Heap} {L : Addr} {m : Str → Option Value} {news : List (Addr × Obj)} {Q : Value → Shared → Prop} {E : Value → Shared → Prop}
    (C : Ok w A t P s) (F : Fr h₀ L s.heap m) (N : News h₀ L s.heap news)
    (h : ∀ v h' tk, (∀ b o, s.heap.get? b = some o → h'.get? b = some o) → Fr h₀ L h' m → News h₀ L h' news → P v { s with heap := h', toks := tk } → Q v { s with heap := h', toks := tk }) :
    wpAny (model PR w) A t Q E s := by
  refine wpAny_mono C (fun v s' hv => ?_) fun _ _ x => x.elim
  obtain ⟨⟨h', tk, rfl, k⟩, hP⟩ := hv
  exact h v h' tk k (Fr.kept F k) (News.kept N k) hP
theorem Ok.useX {w : World} {A : Around} {t : Sem Value} {f : Tok → Value} {s : Shared} {h₀ : Heap} {L : Addr} {m : Str → Option Value} {news : List (Addr × Obj)} {Q : Value → Shared → Prop} {E : Value → Shared → Prop}
    (C : Ok w A t (fun v _ => ∃ k, v = f k) s) (F : Fr h₀ L s.heap m) (N : News h₀ L s.heap news)
    (h : ∀ k h' tk, (∀ b o, s.heap.get? b = some o → h'.get? b = some o) → Fr h₀ L h' m → News h₀ L h' news → Q (f k) { s with heap := h', toks := tk }) :
    wpAny (model PR w) A t Q E s := Ok.use C F N fun v h' tk k F' N' hv => by
  obtain ⟨z, rfl⟩ := hv
  exact h z h' tk k F' N'
end

/-! ## part StrR -/
section
open PySem PySem.W PyProof.Rows PySem.Calls PySem.StrLaws PySem.Builtin PySem.Builtin.Str

theorem lsFlat (x : Str) (hnb : ∀ i, Unicode.isLineBreak (x.cps.getD i 0) = false) : ∀ (m cur : Nat) (st : LsSt), Id.run (forIn (m := Id) (List.range' cur m) st (lsBody x)) = st
  | 0, _, _ => rfl
  | m + 1, cur, st => by
    rw [List.range'_succ, List.forIn_cons]
    have e : lsBody x cur st = pure (ForInStep.yield (st.fst, st.snd)) := by
      unfold lsBody
      rw [hnb cur, Bool.and_false]; rfl
    rw [e]
    exact lsFlat x hnb m (cur + 1) st
theorem lines_one (x : Str) (hx : 0 < x.length) (hnb : ∀ i, Unicode.isLineBreak (x.cps.getD i 0) = false) : Txt.lines x = [x] := by
  have e : lineCuts x = [(0, x.length)] := by
    unfold lineCuts
    rw [ls_eq, lsFlat x hnb]
    unfold lsEnd
    rw [if_pos hx]; rfl
  unfold Txt.lines
  rw [e, if_pos (by simp)]
section
variable {prog : Program} {w : World} {A : Around} {E : Value → Shared → Prop} {s : Shared} {x : Str} {t : Tok} {h₀ : Heap} {L : Addr} {m : Str → Option Value} {news : List (Addr × Obj)} {Q : Value → Shared → Prop}
theorem splitlines1 (F : Fr h₀ L s.heap m) (N : News h₀ L s.heap news) (hx : 0 < x.length) (hl : x.length ≤ 1000) (hnb : ∀ i, Unicode.isLineBreak (x.cps.getD i 0) = false)
    (h : ∀ a h' k u, Fr h₀ L h' m → News h₀ L h' ((a, { cls := .type "list", data := .seq [.str x u].toArray }) :: news) → (∀ p ∈ news, p.1 < a) → Q (.ref a) { s with heap := h', toks := k }) :
    wpAny (model prog w) A (call (.builtin "str.splitlines") [.str x t]) Q E s := by
  refine splitlinesN F N (fun l h' k e F' N' => ?_) (by have : sizeLine = 16777216 := rfl; omega) (by have := lineCuts_le x; have : sizeLine = 16777216 := rfl; omega)
  rw [lines_one x hx hnb] at e
  match l, e with
  | [(y, u)], e =>
    obtain rfl : y = x := by simpa using e
    exact h _ h' k u F' N' (fun p hp => Heap.lt_size (N p hp).1)
end
end

/-! ## part Loops -/
section
open PySem PySem.W PyProof.Rows PySem.Calls
section
variable {prog : Program} {w : World} {A : Around} {s : Shared} {env : Env} {h₀ : Heap} {L : Addr} {x : Str} {px : Pos} {body : List Stmt} {Q : Flow → Shared → Prop}

/-- behind a turn -/
noncomputable def TurnPost (h₀ : Heap) (L : Addr) (J : (Str → Option Value) → List (Addr × Obj) → Prop) (e : Addr × Obj) (s : Shared) (Q : Flow → Shared → Prop) (f : Flow) (s₂ : Shared) : Prop :=
  match f with
  | .ret v => Q (.ret v) s₂
  | .brk => Q .next s₂
  | _ => ∃ h' tk m' news', s₂ = { s with heap := h', toks := tk } ∧ Fr h₀ L h' m' ∧ News h₀ L h' (e :: news') ∧ J m' news'
theorem TurnPost.next {J : (Str → Option Value) → List (Addr × Obj) → Prop} {e : Addr × Obj} {h' : Heap} {tk : Nat} {m' : Str → Option Value} {news' : List (Addr × Obj)} (F : Fr h₀ L h' m') (N : News h₀ L h' (e :: news')) (hj : J m' news') :
    TurnPost h₀ L J e s Q .next { s with heap := h', toks := tk } := ⟨h', tk, m', news', rfl, F, N, hj⟩
theorem TurnPost.cont {J : (Str → Option Value) → List (Addr × Obj) → Prop} {e : Addr × Obj} {h' : Heap} {tk : Nat} {m' : Str → Option Value} {news' : List (Addr × Obj)} (F : Fr h₀ L h' m') (N : News h₀ L h' (e :: news')) (hj : J m' news') :
    TurnPost h₀ L J e s Q .cont { s with heap := h', toks := tk } := ⟨h', tk, m', news', rfl, F, N, hj⟩

theorem News.but {h₀ h h' : Heap} {L I : Addr} {news : List (Addr × Obj)} (N : News h₀ L h news) (hI : ∀ p ∈ news, p.1 ≠ I) (k : ∀ b o, b ≠ I → h.get? b = some o → h'.get? b = some o) : News h₀ L h' news :=
  fun p hp => ⟨k _ _ (hI p hp) (N p hp).1, (N p hp).2⟩
theorem Fr.but {h₀ h h' : Heap} {L I : Addr} {m : Str → Option Value} (F : Fr h₀ L h m) (hL : L ≠ I) (h0 : h₀.get? I = none) (k : ∀ b o, b ≠ I → h.get? b = some o → h'.get? b = some o) : Fr h₀ L h' m :=
  ⟨F.ns.at' fun o e => k _ o hL e, fun b o e => k b o (by rintro rfl; rw [h0] at e; cases e) (F.keep b o e), F.above⟩

theorem for_list {l : Addr} {vs : List Value} {m : Str → Option Value} {news : List (Addr × Obj)} (J : Nat → (Str → Option Value) → List (Addr × Obj) → Prop)
    (hh : A.handled = none) (hL : env.locals = L) (hx : env.kindOf x = some .local) (hp : (env.scope.kind == .class || (env.scope.kind == .module && env.locals != env.globals)) = false)
    (F : Fr h₀ L s.heap m) (N : News h₀ L s.heap news) (hl : s.heap.IsList l vs.toArray) (hlL : l ≠ L)
    (h0 : J 0 m news) (hoff : ∀ i m₁ news₁, J i m₁ news₁ → ∀ p ∈ news₁, p.1 < s.heap.objs.size)
    (hstay : ∀ i m₁ news₁ h₁, J i m₁ news₁ → (∀ b o, h₀.get? b = some o → h₁.get? b = some o) → News h₀ L h₁ news₁ → h₁.IsList l vs.toArray)
    (turn : ∀ i v m₁ news₁ h₁ tk₁ I oI, vs[i]? = some v → J i m₁ news₁ → (∀ p ∈ news₁, p.1 < I) → Fr h₀ L h₁ (fun y => if y = x then some v else m₁ y) → News h₀ L h₁ ((I, oI) :: news₁) →
      wpAny (model prog w) A (execs body env) (TurnPost h₀ L (J (i + 1)) (I, oI) s Q) (fun _ _ => False) { s with heap := h₁, toks := tk₁ })
    (done : ∀ m₁ news₁ h₁ tk₁, J vs.length m₁ news₁ → Fr h₀ L h₁ m₁ → News h₀ L h₁ news₁ → Q .next { s with heap := h₁, toks := tk₁ }) :
    wpAny (model prog w) A (pyIter (.ref l)) (fun it s₂ => codeAny (model prog w) A (.forLoop (.Name x px) it body [] env) (fun r s' => match r with | .ok f => Q f s' | .error e => cameBackBy (model prog w) A env (fun _ _ => False) e s') s₂) (fun _ _ => False) s := by
  subst hL
  have hlt : l < s.heap.objs.size := by obtain ⟨o, ho, _⟩ := hl; exact Heap.lt_size ho
  have hLt := F.ns.lt
  refine wpAny_pyIter_list hl ?_
  have hI0 : h₀.get? s.heap.objs.size = none := next_is_new F
  generalize hI : s.heap.objs.size = I at hoff hI0 hlt hLt ⊢
  refine codeAny_forLoop (fun k s' => ∃ h' tk m' news' i, s' = { s with heap := h', toks := tk } ∧ h'.IsListIter I l i ∧ Fr h₀ env.locals h' m' ∧ News h₀ env.locals h' news' ∧ J i m' news' ∧ i ≤ vs.length ∧ k = vs.length + 1 - i) ?_ (vs.length + 1)
    ⟨_, s.toks, m, news, 0, rfl, ⟨_, hI ▸ Heap.get?_push_size _ rfl, rfl, rfl⟩, F.push _, fun p hp => ⟨Heap.get?_push_of_some _ (N p hp).1, (N p hp).2⟩, h0, Nat.zero_le _, rfl⟩
  rintro k s' ⟨h', tk, m', news', i, rfl, hit, F', N', hJ, hi, rfl⟩
  have offI : ∀ p ∈ news', p.1 ≠ I := fun p hp e => Nat.lt_irrefl _ (e ▸ hoff i m' news' hJ p hp)
  have hl' := hstay i m' news' h' hJ F'.keep N'
  by_cases hlt' : i < vs.length
  · refine wpAny_pyNext_list_item hit hl' (x := vs[i]) (by simp [hlt']) fun h₁ hit₁ hs₁ => ?_
    have F₁ := Fr.but F' (Nat.ne_of_lt hLt) hI0 hs₁.extBut
    have N₁ := News.but N' offI hs₁.extBut
    refine wpAny_assign_Name (wpAny_storeName_local hx F₁.ns (fun h₂ hn₂ hs₂ => ?_) hp)
    have F₂ := F₁.set hn₂ hs₂
    have hit₂ := hit₁.extBut hs₂.extBut (Ne.symm (Nat.ne_of_lt hLt))
    obtain ⟨oI, hoI, hIc, hId⟩ := hit₂
    have N₂ : News h₀ env.locals h₂ ((I, oI) :: news') := fun p hp => by
      rcases List.mem_cons.mp hp with rfl | hp
      · exact ⟨hoI, Ne.symm (Nat.ne_of_lt hLt), hI0⟩
      · exact (N₁.set hs₂) p hp
    refine wpAny_mono (turn i vs[i] m' news' h₂ _ I oI (by simp [hlt']) hJ (fun p hp => hoff i m' news' hJ p hp) F₂ N₂) (fun f s₃ h₃ => ?_) fun _ _ e => e.elim
    have fin : TurnPost h₀ env.locals (J (i + 1)) (I, oI) s Q .next s₃ → ∃ m, m < vs.length + 1 - i ∧ ∃ h' tk m' news' i, s₃ = { s with heap := h', toks := tk } ∧ h'.IsListIter I l i ∧ Fr h₀ env.locals h' m' ∧ News h₀ env.locals h' news' ∧ J i m' news' ∧ i ≤ vs.length ∧ m = vs.length + 1 - i := by
      rintro ⟨h₃', tk₃, m₃, news₃, rfl, F₃, N₃, J₃⟩
      exact ⟨vs.length + 1 - (i + 1), by omega, h₃', tk₃, m₃, news₃, i + 1, rfl, ⟨oI, (N₃ _ (.head _)).1, hIc, hId⟩, F₃, fun p hp => N₃ p (.tail _ hp), J₃, hlt', rfl⟩
    cases f with
    | ret v => exact h₃
    | brk => exact h₃
    | next => exact fin h₃
    | cont => exact fin h₃
  · have hin : i = vs.length := by omega
    subst hin
    refine wpAny_pyNext_list_end hh hit hl' (by simp) fun h₁ he₁ => wpAny_execs_nil ?_
    exact done m' news' h₁ tk hJ (Fr.but F' (Nat.ne_of_lt hLt) hI0 he₁) (News.but N' offI he₁)

theorem fits_ok {i : Int} (h : -4000000 ≤ i ∧ i ≤ 4000000) : Builtin.Range.rangeFitsLong i = true := by
  unfold Builtin.Range.rangeFitsLong
  simp only [Bool.and_eq_true, decide_eq_true_eq]
  omega
theorem fits_ok1 {i : Int} (h : -1000000 ≤ i ∧ i ≤ 1000000) : Builtin.Range.rangeFitsLong i = true := fits_ok (by omega)
theorem range_ok {a b : Int} {n : Nat} (ha : -1000000 ≤ a ∧ a ≤ 1000000) (hb : -1000000 ≤ b ∧ b ≤ 1000000) (hn : (n : Int) = max 0 (b - a)) : Builtin.Range.rangeSize a b 1 = n ∧ Builtin.Range.small a b 1 = true := by
  have hsz : Builtin.Range.rangeSize a b 1 = n := by
    unfold Builtin.Range.rangeSize
    rw [if_pos (by decide)]
    split <;> omega
  refine ⟨hsz, ?_⟩
  unfold Builtin.Range.small
  rw [hsz, fits_ok1 ha, fits_ok1 hb, fits_ok1 (by decide), fits_ok (i := n) (by omega), if_pos (by decide), show b + (1 - 1) = b from Int.add_zero b, fits_ok1 hb]
  simp
noncomputable def RgJ (h₀ : Heap) (L : Addr) (J : Nat → (Str → Option Value) → List (Addr × Obj) → Prop) (s : Shared) (I : Addr) (a : Int) (n : Nat) (k : Nat) (s' : Shared) : Prop :=
  ∃ h' tk m' news' i, s' = { s with heap := h', toks := tk } ∧ IsRangeIter h' I (a + (i : Nat)) ((n : Int) - (i : Nat)) 1 ∧ Fr h₀ L h' m' ∧ News h₀ L h' news' ∧ J i m' news' ∧ i ≤ n ∧ k = n + 1 - i
theorem for_rangeN {r : Addr} {a b : Int} {t u v : Tok} {n : Nat} {m : Str → Option Value} {news : List (Addr × Obj)} (J : Nat → (Str → Option Value) → List (Addr × Obj) → Prop)
    (hh : A.handled = none) (hL : env.locals = L) (hx : env.kindOf x = some .local) (hp : (env.scope.kind == .class || (env.scope.kind == .module && env.locals != env.globals)) = false)
    (F : Fr h₀ L s.heap m) (N : News h₀ L s.heap news) (hr : IsRange s.heap r a b 1 t u v) (ha : -1000000 ≤ a ∧ a ≤ 1000000) (hb : -1000000 ≤ b ∧ b ≤ 1000000) (hn : (n : Int) = max 0 (b - a))
    (h0 : J 0 m news) (hoff : ∀ i m₁ news₁, J i m₁ news₁ → ∀ p ∈ news₁, p.1 ≠ s.heap.objs.size)
    (turn : ∀ i t m₁ news₁ h₁ tk₁ I oI, i < n → J i m₁ news₁ → I = s.heap.objs.size → Fr h₀ L h₁ (fun y => if y = x then some (.int (a + i) t) else m₁ y) → News h₀ L h₁ ((I, oI) :: news₁) →
      wpAny (model prog w) A (execs body env) (TurnPost h₀ L (J (i + 1)) (I, oI) s Q) (fun _ _ => False) { s with heap := h₁, toks := tk₁ })
    (done : ∀ m₁ news₁ h₁ tk₁, J n m₁ news₁ → Fr h₀ L h₁ m₁ → News h₀ L h₁ news₁ → Q .next { s with heap := h₁, toks := tk₁ }) :
    wpAny (model prog w) A (pyIter (.ref r)) (fun it s₂ => codeAny (model prog w) A (.forLoop (.Name x px) it body [] env) (fun r s' => match r with | .ok f => Q f s' | .error e => cameBackBy (model prog w) A env (fun _ _ => False) e s') s₂) (fun _ _ => False) s := by
  subst hL
  have hLt := F.ns.lt
  obtain ⟨hsz, hsmall⟩ := range_ok ha hb hn
  refine wpAny_pyIter_range hr hsmall ?_
  rw [hsz]
  have hI0 : h₀.get? s.heap.objs.size = none := next_is_new F
  generalize hI : s.heap.objs.size = I at hoff hI0 hLt turn ⊢
  refine codeAny_forLoop (RgJ h₀ env.locals J s I a n) ?_ (n + 1)
    ⟨_, s.toks, m, news, 0, rfl, by have := Heap.get?_push_size s.heap (o := { cls := .type "range_iterator", data := .fields #[rawInt a, rawInt n, rawInt 1] }) rfl; rw [hI] at this; simpa using this, F.push _, fun p hp => ⟨Heap.get?_push_of_some _ (N p hp).1, (N p hp).2⟩, h0, Nat.zero_le _, rfl⟩
  rintro k s' ⟨h', tk, m', news', i, rfl, hit, F', N', hJ, hi, rfl⟩
  have offI : ∀ p ∈ news', p.1 ≠ I := fun p hp => hoff i m' news' hJ p hp
  by_cases hlt' : i < n
  · refine wpAny_pyNext_range_item hit (by omega) fun h₁ hit₁ hs₁ => ?_
    have F₁ := Fr.but F' (Nat.ne_of_lt hLt) hI0 hs₁.extBut
    have N₁ := News.but N' offI hs₁.extBut
    refine wpAny_assign_Name (wpAny_storeName_local hx F₁.ns (fun h₂ hn₂ hs₂ => ?_) hp)
    have F₂ := F₁.set hn₂ hs₂
    have hoI := (hs₂.2 I (Ne.symm (Nat.ne_of_lt hLt))).trans hit₁
    generalize hoe : ({ cls := .type "range_iterator", dict := none, data := .fields #[rawInt (a + (i : Int) + 1), rawInt ((n : Int) - (i : Int) - 1), rawInt 1], slots := #[] } : Obj) = oI at hoI
    have N₂ : News h₀ env.locals h₂ ((I, oI) :: news') := fun p hp => by
      rcases List.mem_cons.mp hp with rfl | hp
      · exact ⟨hoI, Ne.symm (Nat.ne_of_lt hLt), hI0⟩
      · exact (N₁.set hs₂) p hp
    refine wpAny_mono (turn i _ m' news' h₂ _ I oI hlt' hJ rfl F₂ N₂) (fun f s₃ h₃ => ?_) fun _ _ e => e.elim
    have fin : TurnPost h₀ env.locals (J (i + 1)) (I, oI) s Q .next s₃ → ∃ m, m < n + 1 - i ∧ RgJ h₀ env.locals J s I a n m s₃ := by
      rintro ⟨h₃', tk₃, m₃, news₃, rfl, F₃, N₃, J₃⟩
      refine ⟨n + 1 - (i + 1), by omega, h₃', tk₃, m₃, news₃, i + 1, rfl, ?_, F₃, fun p hp => N₃ p (.tail _ hp), J₃, hlt', rfl⟩
      have e1 : a + ((i + 1 : Nat) : Int) = a + (i : Int) + 1 := by omega
      have e2 : (n : Int) - ((i + 1 : Nat) : Int) = (n : Int) - (i : Int) - 1 := by omega
      rw [e1, e2]; exact (N₃ _ (.head _)).1.trans (congrArg some hoe.symm)
    cases f with
    | ret v => exact h₃
    | brk => exact h₃
    | next => exact fin h₃
    | cont => exact fin h₃
  · have hin : i = n := by omega
    subst hin
    refine wpAny_pyNext_range_end hh hit (by omega) fun h₁ he₁ => wpAny_execs_nil ?_
    exact done m' news' h₁ tk hJ (Fr.but F' (Nat.ne_of_lt hLt) hI0 he₁) (News.but N' offI he₁)

theorem for_range {r : Addr} {a b : Int} {t u v : Tok} {n : Nat} {m : Str → Option Value} {news : List (Addr × Obj)} (J : Nat → (Str → Option Value) → List (Addr × Obj) → Prop)
    (hh : A.handled = none) (hL : env.locals = L) (hx : env.kindOf x = some .local) (hp : (env.scope.kind == .class || (env.scope.kind == .module && env.locals != env.globals)) = false)
    (F : Fr h₀ L s.heap m) (N : News h₀ L s.heap news) (hr : IsRange s.heap r a b 1 t u v) (ha : -1000000 ≤ a ∧ a ≤ 1000000) (hb : -1000000 ≤ b ∧ b ≤ 1000000) (hn : (n : Int) = max 0 (b - a))
    (h0 : J 0 m news) (hoff : ∀ i m₁ news₁, J i m₁ news₁ → ∀ p ∈ news₁, p.1 < s.heap.objs.size)
    (turn : ∀ i t m₁ news₁ h₁ tk₁ I oI, i < n → J i m₁ news₁ → (∀ p ∈ news₁, p.1 < I) → Fr h₀ L h₁ (fun y => if y = x then some (.int (a + i) t) else m₁ y) → News h₀ L h₁ ((I, oI) :: news₁) →
      wpAny (model prog w) A (execs body env) (TurnPost h₀ L (J (i + 1)) (I, oI) s Q) (fun _ _ => False) { s with heap := h₁, toks := tk₁ })
    (done : ∀ m₁ news₁ h₁ tk₁, J n m₁ news₁ → Fr h₀ L h₁ m₁ → News h₀ L h₁ news₁ → Q .next { s with heap := h₁, toks := tk₁ }) :
    wpAny (model prog w) A (pyIter (.ref r)) (fun it s₂ => codeAny (model prog w) A (.forLoop (.Name x px) it body [] env) (fun r s' => match r with | .ok f => Q f s' | .error e => cameBackBy (model prog w) A env (fun _ _ => False) e s') s₂) (fun _ _ => False) s := by
  refine for_rangeN J hh hL hx hp F N hr ha hb hn h0 (fun i m₁ news₁ hj p hp => Nat.ne_of_lt (hoff i m₁ news₁ hj p hp)) (fun i t m₁ news₁ h₁ tk₁ I oI hi hj hI F₁ N₁ => turn i t m₁ news₁ h₁ tk₁ I oI hi hj (fun p hp => ?_) F₁ N₁) done
  rw [hI]; exact hoff i m₁ news₁ hj p hp
noncomputable def WhilePost (h₀ : Heap) (L : Addr) (J : Nat → (Str → Option Value) → List (Addr × Obj) → Prop) (s : Shared) (Q : Flow → Shared → Prop) (n : Nat) (f : Flow) (s₂ : Shared) : Prop :=
  match f with
  | .ret v => Q (.ret v) s₂
  | .brk => Q .next s₂
  | _ => ∃ h' tk m' news' n', s₂ = { s with heap := h', toks := tk } ∧ Fr h₀ L h' m' ∧ News h₀ L h' news' ∧ n' < n ∧ J n' m' news'
theorem WhilePost.next {J : Nat → (Str → Option Value) → List (Addr × Obj) → Prop} {h' : Heap} {tk n n' : Nat} {m' : Str → Option Value} {news' : List (Addr × Obj)} (F : Fr h₀ L h' m') (N : News h₀ L h' news') (hn : n' < n) (hj : J n' m' news') :
    WhilePost h₀ L J s Q n .next { s with heap := h', toks := tk } := ⟨h', tk, m', news', n', rfl, F, N, hn, hj⟩
theorem WhilePost.cont {J : Nat → (Str → Option Value) → List (Addr × Obj) → Prop} {h' : Heap} {tk n n' : Nat} {m' : Str → Option Value} {news' : List (Addr × Obj)} (F : Fr h₀ L h' m') (N : News h₀ L h' news') (hn : n' < n) (hj : J n' m' news') :
    WhilePost h₀ L J s Q n .cont { s with heap := h', toks := tk } := ⟨h', tk, m', news', n', rfl, F, N, hn, hj⟩
theorem while_inv {test : Expr} {pos : Pos} {m : Str → Option Value} {news : List (Addr × Obj)} (J : Nat → (Str → Option Value) → List (Addr × Obj) → Prop) (n₀ : Nat)
    (F : Fr h₀ L s.heap m) (N : News h₀ L s.heap news) (hJ : J n₀ m news)
    (turn : ∀ n m₁ news₁ h₁ tk₁ W, W = WhilePost h₀ L J s Q n → Fr h₀ L h₁ m₁ → News h₀ L h₁ news₁ → J n m₁ news₁ →
      wpAny (model prog w) A (isTrue test env (eval test env)) (fun b s₂ =>
        if b = true then wpAny (model prog w) A (execs body env) W (fun _ _ => False) s₂ else Q .next s₂) (fun _ _ => False) { s with heap := h₁, toks := tk₁ }) :
    wpAny (model prog w) A (exec (.While test body [] pos) env) Q (fun _ _ => False) s := by
  refine wpAny_While (codeAny_whileLoop (fun n s' => ∃ h₁ tk₁ m₁ news₁, s' = { s with heap := h₁, toks := tk₁ } ∧ Fr h₀ L h₁ m₁ ∧ News h₀ L h₁ news₁ ∧ J n m₁ news₁) ?_ n₀ ⟨s.heap, s.toks, m, news, rfl, F, N, hJ⟩)
  rintro n s' ⟨h₁, tk₁, m₁, news₁, rfl, F₁, N₁, J₁⟩
  refine wpAny_mono (turn n m₁ news₁ h₁ tk₁ _ rfl F₁ N₁ J₁) (fun b s₂ h₂ => ?_) fun _ _ e => e.elim
  cases b with
  | false =>
    simp only [Bool.false_eq_true, if_false] at h₂ ⊢
    exact wpAny_execs_nil h₂
  | true =>
    simp only [if_true] at h₂ ⊢
    refine wpAny_mono h₂ (fun f s₃ h₃ => ?_) fun _ _ e => e.elim
    cases f with
    | next => obtain ⟨h', tk, m₂, news₂, n', rfl, F₂, N₂, hn, J₂⟩ := h₃; exact ⟨n', hn, h', tk, m₂, news₂, rfl, F₂, N₂, J₂⟩
    | cont => obtain ⟨h', tk, m₂, news₂, n', rfl, F₂, N₂, hn, J₂⟩ := h₃; exact ⟨n', hn, h', tk, m₂, news₂, rfl, F₂, N₂, J₂⟩
    | brk => exact h₃
    | ret v => exact h₃
end
end

/-! ## part Hex -/
section
open PySem PySem.W PyProof.Rows PySem.Calls
set_option maxRecDepth 100000

/-- the figures to the base 16 -/
noncomputable def hexL : List Nat := [48, 49, 50, 51, 52, 53, 54, 55, 56, 57, 97, 98, 99, 100, 101, 102, 65, 66, 67, 68, 69, 70]
noncomputable def hexV (c : Nat) : Nat := if c ≤ 57 then c - 48 else if c ≤ 70 then c - 55 else c - 87

noncomputable def isVal (x : int_private% "Numeral") (n : Int) : Bool := (int_private% "Numeral.casesOn") (motive := fun _ => Bool) x false (fun _ => false) false (fun i => decide (i = n))
theorem isVal_eq {x : int_private% "Numeral"} {n : Int} (h : isVal x n = true) : x = (int_private% "Numeral.value") n := by
  cases x with
  | value i => exact congrArg _ (of_decide_eq_true h)
  | _ => cases h
theorem hex_read' : ∀ a ∈ hexL, ∀ b ∈ hexL, isVal ((int_private% "readNumeral") 0 16 [a, b]) ((16 * hexV a + hexV b : Nat) : Int) = true := by decide +kernel
theorem hex_read {a b : Nat} (ha : a ∈ hexL) (hb : b ∈ hexL) : (int_private% "readNumeral") 0 16 [a, b] = (int_private% "Numeral.value") ((16 * hexV a + hexV b : Nat) : Int) := isVal_eq (hex_read' a ha b hb)
theorem hex_lo : ∀ a ∈ hexL, 48 ≤ a ∧ a ≤ 102 := by decide

theorem wp_hex {M : Model} {A : Around} {E : Value → Shared → Prop} {s : Shared} {Q : Value → Shared → Prop} {v : Value} {text : List Nat} {n : Int}
    (hs : (text.takeWhile (· != 0)).length ≤ 640) (hr : (int_private% "readNumeral") 0 16 (text.takeWhile (· != 0)) = (int_private% "Numeral.value") n)
    (ha : ((text.takeWhile (· != 0)).length == text.length) = true) (h : Q (.int n s.toks) { s with toks := s.toks + 1 }) :
    wpAny M A ((int_private% "intFromText") v text 16) Q E s := by
  obtain ⟨hp, g, d, tk, os⟩ := s
  repeat (any_goals (first
    | assumption
    | (with_reducible refine wpAny_ite_true (decide_eq_true hs) ?_)
    | (with_reducible refine wpAny_ite_true (decide_eq_true ha) ?_)
    | wp_step))
  all_goals (try rw [hr])
  all_goals (try dsimp only)
  repeat (any_goals (first
    | assumption
    | (with_reducible refine wpAny_ite_true (decide_eq_true hs) ?_)
    | (with_reducible refine wpAny_ite_true (decide_eq_true ha) ?_)
    | wp_step))

theorem typeCall_int_2 (a b : Value) : checkTypeCall "int" ⟨[a, b], []⟩ = pure () := by kernel_rfl
theorem newCall_int_2 (a b : Value) : checkBuiltinCall "int.__new__" ⟨[.type "int", a, b], []⟩ = pure () := by kernel_rfl

structure Hid (p : Prop) : Prop where
  out : p
set_option maxHeartbeats 4000000 in
theorem gives_hex {a b : Nat} {u v : Tok} (ha : a ∈ hexL) (hb : b ∈ hexL) : Gives (Builtin.«int.__new__» ⟨[.type "int", .str ⟨#[a, b]⟩ u, .int 16 v], []⟩) (.int ((16 * hexV a + hexV b : Nat) : Int)) :=
  .of_wp fun M A E s Q h => by
    obtain ⟨hp, g, d, tk, os⟩ := s
    have f1 := F.conv_sub_int
    have f2 := F.madeHere_int
    have f6 : typeOf (.str ⟨#[a, b]⟩ u) = pure (.type "str") := rfl
    have la := hex_lo a ha
    have lb := hex_lo b hb
    have e0 : [a, b].takeWhile (· != 0) = [a, b] := by
      have : (a != 0) = true := by simp; omega
      have : (b != 0) = true := by simp; omega
      simp [*]
    have e1 : (#[a, b] : Array Nat).all (· < 128) = true := by simp; omega
    have hr := hex_read ha hb
    have et : (if (({ cps := #[a, b] } : Str).cps.all fun x => decide (x < 128)) = true then ({ cps := #[a, b] } : Str).cps.toList else Unicode.numberText ({ cps := #[a, b] } : Str).cps.toList) = [a, b] := by rw [if_pos e1]
    have hk : Hid ((List.takeWhile (fun x => x != 0) (if (({ cps := #[a, b] } : Str).cps.all fun x => decide (x < 128)) = true then ({ cps := #[a, b] } : Str).cps.toList else Unicode.numberText ({ cps := #[a, b] } : Str).cps.toList)).length ≤ 640 ∧
        (int_private% "readNumeral") 0 16 (List.takeWhile (fun x => x != 0) (if (({ cps := #[a, b] } : Str).cps.all fun x => decide (x < 128)) = true then ({ cps := #[a, b] } : Str).cps.toList else Unicode.numberText ({ cps := #[a, b] } : Str).cps.toList)) = (int_private% "Numeral.value") ((16 * hexV a + hexV b : Nat) : Int) ∧
        ((List.takeWhile (fun x => x != 0) (if (({ cps := #[a, b] } : Str).cps.all fun x => decide (x < 128)) = true then ({ cps := #[a, b] } : Str).cps.toList else Unicode.numberText ({ cps := #[a, b] } : Str).cps.toList)).length == (if (({ cps := #[a, b] } : Str).cps.all fun x => decide (x < 128)) = true then ({ cps := #[a, b] } : Str).cps.toList else Unicode.numberText ({ cps := #[a, b] } : Str).cps.toList).length) = true) :=
      ⟨by rw [et, e0]; exact ⟨by simp, hr, rfl⟩⟩
    clear hr e0 la lb e1 et
    repeat (any_goals (first
      | assumption
      | ((with_reducible show wpAny _ _ ((int_private% "intFromText") _ _ _) _ _ _); refine wp_hex hk.out.1 hk.out.2.1 hk.out.2.2 ?_)
      | wp_step))
    all_goals first | exact ⟨_, rfl, h⟩ | skip
section
variable {prog : Program} {w : World} {A : Around} {E : Value → Shared → Prop} {s : Shared} {Q : Value → Shared → Prop}
theorem call_hex {a b : Nat} {u v : Tok} (ha : a ∈ hexL) (hb : b ∈ hexL) (h : Q (.int ((16 * hexV a + hexV b : Nat) : Int) s.toks) { s with toks := s.toks + 1 }) :
    wpAny (model prog w) A (call (.type "int") [.str ⟨#[a, b]⟩ u, .int 16 v]) Q E s :=
  callType_new F.called_int F.newNe_int (typeCall_int_2 _ _) (newCall_int_2 _ _) (fun obj => F.args_object_init_3 obj _ _) F.entry_int_new (gives_hex ha hb).meets (show (Made.int _).post _ s from ⟨rfl, h⟩)
end
end

/-! ## part Mp -/
section
open PySem PySem.W PyProof.Rows PySem.Calls
/-- a frame's names as a list; none: not bound -/
noncomputable def mp : List (Str × Option Value) → Str → Option Value
  | [], _ => none
  | (x, v) :: r, y => if y = x then v else mp r y
noncomputable def up (x : Str) (v : Value) : List (Str × Option Value) → List (Str × Option Value)
  | [] => [(x, some v)]
  | (y, u) :: r => if x = y then (y, some v) :: r else (y, u) :: up x v r
theorem mp_up (x : Str) (v : Value) (y : Str) : ∀ l, mp (up x v l) y = if y = x then some v else mp l y
  | [] => by simp [up, mp]
  | (z, u) :: r => by
    unfold up
    by_cases h : x = z
    · subst h
      rw [if_pos rfl]
      show (if y = x then some v else mp r y) = if y = x then some v else if y = x then u else mp r y
      by_cases e : y = x <;> simp [e]
    · rw [if_neg h]
      show (if y = z then u else mp (up x v r) y) = if y = x then some v else if y = z then u else mp r y
      rw [mp_up x v y r]
      by_cases e : y = z
      · subst e; simp [Ne.symm h]
      · simp [e]
theorem mp_slot (x y : Str) : ∀ l, mp (l ++ [(x, none)]) y = mp l y
  | [] => by simp [mp]
  | (z, u) :: r => by
    show (if y = z then u else mp (r ++ [(x, none)]) y) = if y = z then u else mp r y
    rw [mp_slot x y r]
theorem mp_lookup (y : Str) : ∀ l : List (Str × Value), l.lookup y = mp (l.map fun p => (p.1, some p.2)) y
  | [] => rfl
  | (z, u) :: r => by
    show (match y == z with | true => some u | false => r.lookup y) = if y = z then some u else mp _ y
    rw [← mp_lookup y r]
    by_cases e : y = z
    · subst e; rw [beq_self_eq_true, if_pos rfl]
    · rw [beq_eq_false_iff_ne.mpr e, if_neg e]
section
variable {h₀ h : Heap} {L : Addr} {l : List (Str × Option Value)} {x : Str} {v : Value}
theorem Fr.up (F : Fr h₀ L h (fun y => if y = x then some v else mp l y)) : Fr h₀ L h (mp (up x v l)) := by
  have e : mp (Mine.up x v l) = fun y => if y = x then some v else mp l y := funext fun y => mp_up x v y l
  rw [e]; exact F
theorem Fr.slot (x : Str) (F : Fr h₀ L h (mp l)) : Fr h₀ L h (mp (l ++ [(x, none)])) := by
  have e : mp (l ++ [(x, none)]) = mp l := funext fun y => mp_slot x y l
  rw [e]; exact F
theorem Fr.ofLookup {l : List (Str × Value)} (F : Fr h₀ L h (fun y => l.lookup y)) : Fr h₀ L h (mp (l.map fun p => (p.1, some p.2))) := by
  have e : mp (l.map fun p => (p.1, some p.2)) = fun y => l.lookup y := funext fun y => (mp_lookup y l).symm
  rw [e]; exact F
end
section
variable {M : Model} {A : Around} {E : Value → Shared → Prop} {s : Shared} {name : Str} {scope : Scope} {L a : Addr} {cd : Value} {h₀ : Heap} {l : List (Str × Option Value)} {news : List (Addr × Obj)}
theorem stM {x : Str} {v : Value} {Q : Unit → Shared → Prop} (F : Fr h₀ L s.heap (mp l)) (N : News h₀ L s.heap news)
    (h : ∀ h', Fr h₀ L h' (mp (up x v l)) → News h₀ L h' news → Q () { s with heap := h', toks := s.toks + 1 })
    (hk : scope.kind = .function := by rfl) (hl : (envOf name scope L a cd).kindOf x = some .local := by rfl) :
    wpAny M A (storeName (envOf name scope L a cd) x v) Q E s :=
  stN F N (fun h' F' N' => h h' (Fr.up F') N') hk hl
end
/-- a mark: the walk stops here -/
noncomputable def Stop (p : Prop) : Prop := p
theorem stop_ {p : Prop} (h : Stop p) : p := h
/-- what is wanted behind, under a short name -/
theorem hideQ {α : Type} {M : PySem.Model} {A : PySem.Around} {t : PySem.Sem α} {Q : α → PySem.Shared → Prop} {E : PySem.Value → PySem.Shared → Prop} {s : PySem.Shared} (h : ∀ Q', Q' = Q → PySem.wpAny M A t Q' E s) : PySem.wpAny M A t Q E s := h Q rfl
end

/-! ## part P1 -/
section
open PySem PySem.W PyProof.Rows PySem.Calls PySem.StrLaws PySem.Builtin PySem.Builtin.Str
/-- a text by its signs -/
noncomputable def S (l : List Nat) : Str := ⟨l.toArray⟩
theorem S_of (x : Str) : x = S x.cps.toList := by cases x; simp [S]
theorem S_list (l : List Nat) : (S l).cps.toList = l := by simp [S]
theorem S_len (l : List Nat) : (S l).length = l.length := by simp [S, Str.length]
theorem S_app (a b : List Nat) : S a ++ S b = S (a ++ b) := by
  show Str.mk (a.toArray ++ b.toArray) = Str.mk _
  simp
theorem S_inj {a b : List Nat} (h : S a = S b) : a = b := by rw [← S_list a, h, S_list]
theorem S_item (l : List Nat) (i : Nat) (c : Nat) (h : l[i]? = some c) : Txt.item (S l) (i : Int) = S [c] := by
  have hlt : i < l.length := (List.getElem?_eq_some_iff.mp h).1
  have e : seqIndex? (i : Int) (S l).length = some i := by
    rw [S_len]
    unfold seqIndex?
    simp
    omega
  unfold Txt.item Txt.charAt
  rw [e]
  show Str.mk #[((l.toArray)[i]?).getD 0] = _
  simp [h, S]
theorem S_slice3 (l : List Nat) (i : Nat) (a b c : Nat) (r : List Nat) (h : l.drop i = a :: b :: c :: r) : Txt.slice (S l) (some (i : Int)) (some ((i : Int) + 3)) = S [a, b, c] := by
  have hle : i + 3 ≤ l.length := by
    have := congrArg List.length h
    simp at this
    omega
  have := slice_closes (x := S l) (i := i) (j := (i : Int) + 3) ⟨by omega, by omega, by rw [S_list]; omega⟩
  rw [beq_iff_eq.mp this, S_list]
  have e : (((i : Int) + 3 - (i : Int)).toNat) = 3 := by omega
  rw [e, Int.toNat_natCast, h]
  rfl
theorem S_eqsign (c : Nat) : (S [c] != Str.ofString "=") = (c != 61) := by
  have e : Str.ofString "=" = S [61] := by decide +kernel
  rw [e]
  by_cases h : c = 61
  · subst h; decide +kernel
  · have : S [c] ≠ S [61] := fun q => h (by have := S_inj q; simpa using this)
    rw [bne_iff_ne.mpr this, bne_iff_ne.mpr h]
theorem S_in (l : List Nat) (c : Nat) : (!(occurrences (S l) (S [c]) 0 (S l).length 1).isEmpty) = decide (c ∈ l) := by
  have := found_one (S l) c
  rw [S_list] at this
  exact this
theorem hexdigits_S : Str.ofString "0123456789abcdefABCDEF" = S hexL := by decide +kernel
theorem empty_S : Str.ofString "" = S [] := by decide +kernel
theorem nl_S : Str.ofString "\n" = S [10] := by decide +kernel
theorem crnl_S : Str.ofString "\r\n" = S [13, 10] := by decide +kernel

/-- the signs that stand at the end and are white -/
noncomputable def rs (l : List Nat) : List Nat := (l.reverse.dropWhile Unicode.isSpace).reverse
theorem S_rstrip (l : List Nat) : Txt.rstrip (S l) = S (rs l) := by
  have hd : ∀ l : List Nat, l.dropWhile Unicode.isSpace = l.drop (l.takeWhile Unicode.isSpace).length := by
    intro l
    induction l with
    | nil => rfl
    | cons a r ih =>
      rw [List.dropWhile_cons, List.takeWhile_cons]
      split
      · simpa using ih
      · rfl
  have hc : rs l = l.take (l.length - (l.reverse.takeWhile Unicode.isSpace).length) := by
    unfold rs
    rw [hd, List.drop_reverse, List.reverse_reverse]
  unfold Txt.rstrip Txt.stripBy
  have e0 : stripLo Unicode.isSpace false (S l) = 0 := rfl
  have e1 : stripHi Unicode.isSpace true (S l) 0 = l.length - (l.reverse.takeWhile Unicode.isSpace).length := by
    unfold stripHi
    rw [if_pos rfl, S_list, S_len]; rfl
  split
  · rename_i h
    unfold stripSame at h
    rw [e0, e1, S_len] at h
    have h2 := beq_iff_eq.mp (Bool.and_eq_true_iff.mp h).2
    rw [hc, h2, List.take_of_length_le (Nat.le_refl _)]
  · unfold PySem.stripped
    rw [e0, e1]
    rw [S_of (strSub _ _ _), strSub_toList, S_list, hc]
    simp

/-- what the loop over a line makes of the rest of it, its line's end with it; by fuel -/
noncomputable def goF : Nat → List Nat → List Nat
  | 0, _ => []
  | _ + 1, [] => []
  | n + 1, c :: r =>
    if c ≠ 61 then c :: (if r = [] then [10] else goF n r)
    else match r with
      | [] => []
      | [x] => 61 :: goF n [x]
      | x :: y :: r' => if x ∈ hexL ∧ y ∈ hexL then (16 * hexV x + hexV y) :: (if r' = [] then [10] else goF n r') else 61 :: goF n (x :: y :: r')
noncomputable def go (l : List Nat) : List Nat := goF l.length l
theorem goF_mono : ∀ (n m : Nat) (l : List Nat), l.length ≤ n → l.length ≤ m → goF n l = goF m l
  | 0, 0, [], _, _ => rfl
  | 0, _ + 1, [], _, _ => rfl
  | _ + 1, 0, [], _, _ => rfl
  | _ + 1, _ + 1, [], _, _ => rfl
  | n + 1, m + 1, c :: r, h, h' => by
    have h := Nat.le_of_succ_le_succ h
    have h' := Nat.le_of_succ_le_succ h'
    have ih := goF_mono n m r h h'
    show (if c ≠ 61 then c :: (if r = [] then [10] else goF n r) else _) = (if c ≠ 61 then c :: (if r = [] then [10] else goF m r) else _)
    rw [ih]
    split
    · rfl
    · match r, h, h', ih with
      | [], _, _, _ => rfl
      | [x], _, _, ih => exact congrArg (61 :: ·) ih
      | x :: y :: r', h, h', ih =>
        have k := Nat.le_trans (Nat.le_add_right r'.length 2) h
        have k' := Nat.le_trans (Nat.le_add_right r'.length 2) h'
        show (if x ∈ hexL ∧ y ∈ hexL then (16 * hexV x + hexV y) :: (if r' = [] then [10] else goF n r') else 61 :: goF n (x :: y :: r')) = (if x ∈ hexL ∧ y ∈ hexL then (16 * hexV x + hexV y) :: (if r' = [] then [10] else goF m r') else 61 :: goF m (x :: y :: r'))
        rw [ih, goF_mono n m r' k k']
theorem go_F (n : Nat) (l : List Nat) (h : l.length ≤ n) : go l = goF n l := goF_mono _ _ l (Nat.le_refl _) h
theorem go_nil : go [] = [] := rfl
theorem go_ne {c : Nat} {r : List Nat} (h : c ≠ 61) : go (c :: r) = c :: (if r = [] then [10] else go r) := if_pos h
theorem go_end : go [61] = [] := rfl
theorem go_hex {x y : Nat} {r : List Nat} (hx : x ∈ hexL) (hy : y ∈ hexL) : go (61 :: x :: y :: r) = (16 * hexV x + hexV y) :: (if r = [] then [10] else go r) := by
  rw [go_F (r.length + 2) r (Nat.le_add_right _ 2)]
  exact if_pos ⟨hx, hy⟩
theorem go_eq {r : List Nat} (h : r ≠ []) (hn : ∀ x y r', r = x :: y :: r' → ¬ (x ∈ hexL ∧ y ∈ hexL)) : go (61 :: r) = 61 :: go r := by
  match r, h, hn with
  | [x], _, _ => rfl
  | x :: y :: r', _, hn => exact if_neg (hn x y r' rfl)
theorem go_len (n : Nat) : ∀ l : List Nat, l.length ≤ n → (go l).length ≤ l.length + 1 := by
  induction n with
  | zero => intro l h; match l, h with | [], _ => rw [go_nil]; simp
  | succ n ih =>
    intro l h
    match l, h with
    | [], _ => rw [go_nil]; simp
    | c :: r, h =>
      simp only [List.length_cons] at h
      by_cases hc : c = 61
      · subst hc
        by_cases hr : r = []
        · subst hr; rw [go_end]; simp
        · by_cases hx : ∃ x y r', r = x :: y :: r' ∧ x ∈ hexL ∧ y ∈ hexL
          · obtain ⟨x, y, r', rfl, h1, h2⟩ := hx
            rw [go_hex h1 h2]
            simp only [List.length_cons] at h ⊢
            split
            · simp
            · have := ih r' (by omega); omega
          · rw [go_eq hr (fun x y r' e q => hx ⟨x, y, r', e, q.1, q.2⟩)]
            have := ih r (by omega)
            simp only [List.length_cons]; omega
      · rw [go_ne hc]
        simp only [List.length_cons]
        split
        · simp
        · have := ih r (by omega); omega
/-- decode, of a line that is rstripped -/
noncomputable def outL (l : List Nat) : List Nat := if l = [] then [10] else go l
noncomputable def cut (l : List Nat) : List Nat := if l.getLast? = some 10 then l.dropLast else l
noncomputable def decL (l : List Nat) : List Nat := cut (outL l)
theorem outL_len (l : List Nat) : (outL l).length ≤ l.length + 1 := by
  unfold outL
  split
  · simp
  · exact go_len _ l (Nat.le_refl _)
theorem rs_len (l : List Nat) : (rs l).length ≤ l.length := by
  unfold rs
  rw [List.length_reverse]
  have := (List.dropWhile_sublist Unicode.isSpace (l := l.reverse)).length_le
  simpa using this
theorem S_ends (l : List Nat) (c : Nat) : Txt.endswith (S l) (S [c]) = decide (l.getLast? = some c) := by
  unfold Txt.endswith
  rw [subAt_eq, S_list, S_list, S_len, S_len]
  rcases List.eq_nil_or_concat l with rfl | ⟨r, a, rfl⟩
  · simp
  · have : (r.concat a).length - [c].length = r.length := by simp
    rw [this]
    simp
    by_cases h : a = c <;> simp [h]
/-- a slice's bound, as Python clips it -/
noncomputable def clp (n : Nat) (v : Option Int) (d : Nat) : Nat := match v with | none => d | some i => (max 0 (min (if i < 0 then i + n else i) n)).toNat
theorem clp_le {n d : Nat} {v : Option Int} (hd : d ≤ n) : clp n v d ≤ n := by
  unfold clp
  split
  · exact hd
  · exact Int.toNat_le.mpr (Int.max_le.mpr ⟨Int.natCast_nonneg n, Int.min_le_right _ _⟩)
theorem clp_nat {n i d : Nat} : clp n (some (i : Int)) d = min i n := by
  show (max 0 (min (if (i : Int) < 0 then (i : Int) + (n : Int) else (i : Int)) (n : Int))).toNat = min i n
  rw [if_neg (Int.not_lt.mpr (Int.natCast_nonneg i))]
  by_cases h : i ≤ n
  · rw [Nat.min_eq_left h, Int.min_eq_left (Int.ofNat_le.mpr h), Int.max_eq_right (Int.natCast_nonneg i)]; rfl
  · have h := Nat.le_of_not_le h
    rw [Nat.min_eq_right h, Int.min_eq_right (Int.ofNat_le.mpr h), Int.max_eq_right (Int.natCast_nonneg n)]; rfl
theorem pick_range (l : List Nat) (a : Nat) : ∀ m, ((List.range m).map (a + ·)).filterMap (l.toArray[·]?) = (l.drop a).take m := by
  intro m
  induction m with
  | zero => simp
  | succ m ih =>
    rw [List.range_succ, List.map_append, List.filterMap_append, ih, List.take_add_one]
    congr 1
    simp only [List.map_cons, List.map_nil, List.getElem?_drop]
    cases h : l[a + m]? <;> simp [h]
theorem S_slice (l : List Nat) (lo hi : Option Int) : Txt.slice (S l) lo hi = S ((l.drop (clp l.length lo 0)).take (clp l.length hi l.length - clp l.length lo 0)) := by
  have hA : clp l.length lo 0 ≤ l.length := clp_le (Nat.zero_le _)
  have hB : clp l.length hi l.length ≤ l.length := clp_le (Nat.le_refl _)
  have e : strSliceIndices lo hi 1 l.length = (List.range (clp l.length hi l.length - clp l.length lo 0)).map (clp l.length lo 0 + ·) := by
    have hr : ∀ x y : Int, 0 ≤ x → 0 ≤ y → sliceRange x y 1 = (List.range (y.toNat - x.toNat)).map (x.toNat + ·) := by
      intro x y hx hy
      unfold sliceRange
      simp only [show (1 : Int) > 0 by decide, if_true]
      obtain ⟨a, rfl⟩ := Int.eq_ofNat_of_zero_le hx
      obtain ⟨b, rfl⟩ := Int.eq_ofNat_of_zero_le hy
      have e1 : (if (a : Int) < (b : Int) then ((b : Int) - a + 1 - 1) / 1 else 0 : Int).toNat = b - a := by
        split
        · rw [Int.ediv_one, Int.add_sub_cancel]; exact Int.toNat_sub b a
        · rename_i q
          exact (Nat.sub_eq_zero_of_le (Int.ofNat_le.mp (Int.not_lt.mp q))).symm
      rw [e1]
      refine List.map_congr_left fun k _ => ?_
      rw [Int.one_mul]; rfl
    unfold strSliceIndices clp
    simp only [show (1 : Int) > 0 by decide, if_true]
    cases lo <;> cases hi <;> simp only [] <;> rw [hr _ _ (by first | exact Int.le_max_left _ _ | exact Int.natCast_nonneg _ | exact Int.le_refl 0 | omega) (by first | exact Int.le_max_left _ _ | exact Int.natCast_nonneg _ | exact Int.le_refl 0 | omega)] <;> simp
  unfold Txt.slice
  rw [S_len, e]
  split
  · rename_i h
    simp only [beq_self_eq_true, Bool.true_and, List.length_map, List.length_range, beq_iff_eq] at h
    have h0 : clp l.length lo 0 = 0 ∨ l.length = 0 := by omega
    congr 1
    rw [h]
    rcases h0 with h0 | h0
    · rw [h0]; simp
    · have := List.eq_nil_of_length_eq_zero h0; subst this; simp
  · show Str.mk _ = Str.mk _
    congr 2
    exact pick_range l _ _
theorem S_init (l : List Nat) : Txt.slice (S l) none (some (-1)) = S l.dropLast := by
  rw [S_slice]
  congr 1
  have e1 : clp l.length none 0 = 0 := rfl
  have e2 : clp l.length (some (-1)) l.length = l.length - 1 := by
    show (max 0 (min ((-1 : Int) + (l.length : Int)) (l.length : Int))).toNat = _
    match l.length with
    | 0 => rfl
    | n + 1 =>
      have h : (-1 : Int) + ((n + 1 : Nat) : Int) = (n : Int) := Int.neg_add_cancel_left 1 (n : Int) ▸ by rw [Int.natCast_succ, Int.add_comm (n : Int) 1]
      rw [h, Int.min_eq_left (Int.ofNat_le.mpr (Nat.le_succ n)), Int.max_eq_right (Int.natCast_nonneg n)]; rfl
  rw [e1, e2, List.dropLast_eq_take]; simp
theorem S_take2 (l : List Nat) : Txt.slice (S l) none (some 2) = S (l.take 2) := by
  rw [S_slice]
  have e1 : clp l.length none 0 = 0 := rfl
  have e2 : clp l.length (some 2) l.length = min 2 l.length := clp_nat (i := 2)
  rw [e1, e2, List.drop_zero, Nat.sub_zero]
  congr 1
  by_cases h : 2 ≤ l.length
  · rw [Nat.min_eq_left h]
  · rw [Nat.min_eq_right (by omega), List.take_length, List.take_of_length_le (by omega)]
theorem S_drop2 (a b : Nat) (l : List Nat) : Txt.slice (S (a :: b :: l)) (some 2) none = S l := by
  rw [S_slice]
  have e1 : clp (a :: b :: l).length (some 2) 0 = 2 := (clp_nat (i := 2)).trans (Nat.min_eq_left (Nat.le_add_left 2 l.length))
  have e2 : clp (a :: b :: l).length none (a :: b :: l).length = l.length + 1 + 1 := rfl
  rw [e1, e2, Nat.add_sub_cancel (n := l.length) (m := 2)]
  exact congrArg S (List.take_length (l := l))
end

/-! ## part HasA -/
section
open PySem PySem.W PyProof.Rows PySem.Calls
set_option maxRecDepth 100000
set_option maxHeartbeats 4000000
theorem lk_str_gi : typeLookup (.type "str") "__getitem__" = pure (some (.builtin "str.__getitem__")) := by rw [typeLookup_type, builtinLookup_eq_fast]; kernel_rfl
theorem lk_wd_set : typeLookup (.type "wrapper_descriptor") "__set__" = pure none := by rw [typeLookup_type, builtinLookup_eq_fast]; kernel_rfl
theorem lk_wd_del : typeLookup (.type "wrapper_descriptor") "__delete__" = pure none := by rw [typeLookup_type, builtinLookup_eq_fast]; kernel_rfl
theorem ty_str_gi : typeOf (.builtin "str.__getitem__") = pure (.type "wrapper_descriptor") := by kernel_rfl
theorem slot_wd_get : Slot "wrapper_descriptor" "__get__" "wrapper_descriptor.__get__" :=
  .of (owner := "wrapper_descriptor") (n := "__get__") (by rw [typeLookup_type, builtinLookup_eq_fast]; kernel_rfl) (by decide +kernel) (by decide +kernel) (by decide +kernel)
    (by first | exact .inl (by decide +kernel) | exact .inr (by decide +kernel)) (by rw [isSubtype_type]; kernel_rfl)
theorem entry_wd_get : entryFor table "wrapper_descriptor.__get__" = some Builtin.«wrapper_descriptor.__get__» := entryFor_of_tree (by kernel_rfl)
theorem args_wd_get (a b c : Value) : argsOk "wrapper_descriptor.__get__" ⟨[a, b, c], []⟩ := by unfold argsOk; kernel_rfl
theorem owner_str_gi : (".".intercalate ("str.__getitem__".cutAt '.').dropLast) = "str" := by
  have e0 : "str.__getitem__".cutAt '.' = ["str", "__getitem__"] := by first | rfl | decide +kernel
  rw [e0]; decide +kernel
theorem sub_str_str : isSubtype (.type "str") (.type (".".intercalate ("str.__getitem__".cutAt '.').dropLast)) = pure true := by
  rw [owner_str_gi, isSubtype_type]; kernel_rfl
section
variable {prog : Program} {w : World} {A : Around} {E : Value → Shared → Prop} {h : Heap} {g : Array GenState} {d : Drawn} {t : Nat} {os : OsState} {x : Str} {u : Tok}
theorem gi_get {R : Result → Shared → Prop} (hq : R (.ok (.ret (.ref h.objs.size))) ⟨h.push { cls := .type "method-wrapper", data := .fields #[.builtin "str.__getitem__", .str x u] }, g, d, t, os⟩) :
    codeAny (model prog w) A (.call (.builtin "wrapper_descriptor.__get__") ⟨[.builtin "str.__getitem__", .str x u, .type "str"], []⟩) R ⟨h, g, d, t, os⟩ := by
  have hT : (⟨h, g, d, t, os⟩ : Shared).TypeIs (.str x u) "str" := rfl
  have hT5 : (⟨h, g, d, t, os⟩ : Shared).TypeIs (.builtin "str.__getitem__") "wrapper_descriptor" := ty_str_gi
  have f8 := sub_str_str
  refine codeAny_call_builtin slot_wd_get.plain entry_wd_get (slot_wd_get.check _ _ _ _ _ _ _ _ hT5 (args_wd_get _ _ _) ?_)
  repeat (any_goals (first | assumption | wp_step))
theorem gi_entry {tk : Tok} {Q : Fin → Shared → Prop} (hq : Q (.done (.ret (.ref h.objs.size))) ⟨h.push { cls := .type "method-wrapper", data := .fields #[.builtin "str.__getitem__", .str x u] }, g, d, t, os⟩) : 
    wpAny (model prog w) A (Builtin.«object.__getattribute__» ⟨[.str x u, .str "__getitem__" tk], []⟩) Q E ⟨h, g, d, t, os⟩ := by
  have hT : (⟨h, g, d, t, os⟩ : Shared).TypeIs (.str x u) "str" := rfl
  have hT5 : (⟨h, g, d, t, os⟩ : Shared).TypeIs (.builtin "str.__getitem__") "wrapper_descriptor" := ty_str_gi
  have f4 := lk_str_gi
  have f5 := ty_str_gi
  have f6 := slot_wd_get.lookup
  have f7 := lk_wd_set
  have f8 := lk_wd_del
  repeat (any_goals (first | assumption | wp_step))
  refine gi_get ?_
  repeat (any_goals (first | assumption | wp_step))
theorem gi_call {tk : Tok} {R : Result → Shared → Prop} (hq : R (.ok (.ret (.ref h.objs.size))) ⟨h.push { cls := .type "method-wrapper", data := .fields #[.builtin "str.__getitem__", .str x u] }, g, d, t, os⟩) :
    codeAny (model prog w) A (.call (.builtin "object.__getattribute__") ⟨[.str x u, .str "__getitem__" tk], []⟩) R ⟨h, g, d, t, os⟩ :=
  codeAny_call_builtin F.slot_str_getattribute.plain F.entry_object_getattribute (F.slot_str_getattribute.check _ _ _ _ _ _ _ _ (show (⟨h, g, d, t, os⟩ : Shared).TypeIs (.str x u) "str" from rfl) (F.args_object_getattribute_2 _ _) (gi_entry hq))
theorem gi_by {tk : Tok} {Q : Value → Shared → Prop} (hq : Q (.ref h.objs.size) ⟨h.push { cls := .type "method-wrapper", data := .fields #[.builtin "str.__getitem__", .str x u] }, g, d, t, os⟩) : wpAny (model prog w) A (getAttrBy (.str x u) (.str "__getitem__" tk) false) Q E ⟨h, g, d, t, os⟩ := by
  have hT : (⟨h, g, d, t, os⟩ : Shared).TypeIs (.str x u) "str" := rfl
  have f2 := F.slot_str_getattribute.lookup
  have f3 := F.slot_str_getattribute.bind (.str x u)
  repeat (any_goals (first | assumption | wp_step))
  refine gi_call ?_
  repeat (any_goals (first | assumption | wp_step))
theorem kind_hasattr : builtinKind "hasattr" = none := by decide +kernel
theorem entry_hasattr : entryFor table "hasattr" = some Builtin.«hasattr» := entryFor_of_tree (by kernel_rfl)
theorem hasattr_gi {tk : Tok} {Q : Fin → Shared → Prop} (hq : Q (.done (.ret (.bool true))) ⟨h.push { cls := .type "method-wrapper", data := .fields #[.builtin "str.__getitem__", .str x u] }, g, d, t, os⟩) :
    wpAny (model prog w) A (Builtin.«hasattr» ⟨[.str x u, .str "__getitem__" tk], []⟩) Q E ⟨h, g, d, t, os⟩ := by
  have hT : (⟨h, g, d, t, os⟩ : Shared).TypeIs (.str x u) "str" := rfl
  have f2 := F.slot_str_getattribute.lookup
  have f4 := lk_str_gi
  repeat (any_goals (first | assumption | with_reducible apply gi_by | wp_step))
end
section
variable {prog : Program} {w : World} {A : Around} {E : Value → Shared → Prop} {s : Shared} {x : Str} {u tk : Tok} {h₀ : Heap} {L : Addr} {m : Str → Option Value} {news : List (Addr × Obj)} {Q : Value → Shared → Prop}
theorem args_hasattr (a b : Value) : argsOk "hasattr" ⟨[a, b], []⟩ := by unfold argsOk; kernel_rfl
theorem call_hasattr (F : Fr h₀ L s.heap m) (N : News h₀ L s.heap news) (hq : ∀ h', Fr h₀ L h' m → News h₀ L h' news → Q (.bool true) { s with heap := h' }) :
    wpAny (model prog w) A (call (.builtin "hasattr") [.str x u, .str (Str.ofString "__getitem__") tk]) Q E s := by
  obtain ⟨h, g, d, t, os⟩ := s
  refine Calls.call_function_entry kind_hasattr (by decide +kernel) entry_hasattr (args_hasattr _ _) (hasattr_gi ⟨_, rfl, ?_⟩)
  exact hq _ (F.push _) (fun p hp => ⟨Heap.get?_push_of_some _ (N p hp).1, (N p hp).2⟩)
end
end
end Mine
end

section
open PySem PySem.W PyProof.Rows PySem.Calls
namespace Mine

/-! ## part Small -/
section
open PySem PySem.W PyProof.Rows PySem.Calls
theorem fr_list {h₀ h : Heap} {L a : Addr} {m : Str → Option Value} {vs : List Value} (F : Fr h₀ L h m) (hl : h₀.IsList a vs.toArray) : h.IsList a vs.toArray := hl.at fun o e => F.keep a o e
local macro_rules | `(tactic| walk_at "call builtin:hasattr") => `(tactic| (k_dflt (refine call_hasattr ‹_› ‹_› ?_); intro h' F' N'; (try k_sweep)))
theorem item_L {prog : Program} {w : World} {A : Around} {E : Value → Shared → Prop} {s : Shared} {value slice : Expr} {l : Addr} {vs : List Value} {i : Nat} {u : Tok} {v : Value} {Q : Value → Shared → Prop} (hl : s.heap.IsList l vs.toArray) (hlen : vs.length ≤ 1000) (hx : vs[i]? = some v) (h : Q v s)
    (hs : subscripted slice false (.ref l) (.int (i : Int) u) = operate [.ref l, .int (i : Int) u] (getItem (.ref l) (.int (i : Int) u)) := by with_unfolding_all rfl) :
    wpAny (model prog w) A (subscriptTail value slice (.ref l) (.int (i : Int) u)) Q E s :=
  tail_any hl.typeIs slot_list_getitem.lookup (wpAny_getItem_list hl (by omega) (by have := (List.getElem?_eq_some_iff.mp hx).1; omega) (by simpa using hx) h) hs
local macro_rules | `(tactic| walk_at "subscriptTail Name Name ref int") => `(tactic| (k_dflt (refine item_L ‹_› ‹_› ‹_› ?_)))
section
variable {w : World} {A : Around} {s : Shared} {E : Value → Shared → Prop}
set_option maxRecDepth 100000
set_option maxHeartbeats 8000000

theorem c_add {a b : Int} {t u : Tok} (R : Rd 0 w A s.heap) : Ok w A (call (.ref 36) [.int a t, .int b u]) (fun v _ => ∃ k, v = .int (a + b) k) s := by
  obtain ⟨X, ⟨p, loose, mg, mb, T⟩, hA, hu, hh⟩ := R
  unfold Ok
  (
    refine' enter (by assumption) (TopRead.nolimit (by assumption)) ?k6 ?k7 ?k8 ?k9 ?kB ?_ ?c2 ?c3 ?c4 ?c5;
    (case k6 => k_is); (case k7 => k_is); (case k8 => ((have : recursionLimit = 1000 := rfl); omega)); (case k9 => first | exact BindsTo.of_eq rfl | exact binds_K (by k_in) rfl (by k_is) rfl rfl rfl); (case c5 => decide); (case kB => exact locs rfl); (case c2 => exact rfl); (case c3 => exact rfl); (case c4 => exact rfl))
  clear hA hu
  intro L h₁ tk₀ F N
  replace F : Fr s.heap L h₁ (mp [(Str.ofString "b", some (.int b u)), (Str.ofString "a", some (.int a t))]) := Fr.ofLookup F
  refine hideQ fun QQ hQQ => ?_

  try k_fold
  k_steps
  (rename Fr _ _ _ _ => F')
  subst hQQ
  exact Post.mk F' ⟨_, rfl⟩

theorem c_sub {a b : Int} {t u : Tok} (R : Rd 0 w A s.heap) : Ok w A (call (.ref 57) [.int a t, .int b u]) (fun v _ => ∃ k, v = .int (a - b) k) s := by
  obtain ⟨X, ⟨p, loose, mg, mb, T⟩, hA, hu, hh⟩ := R
  unfold Ok
  (
    refine' enter (by assumption) (TopRead.nolimit (by assumption)) ?k6 ?k7 ?k8 ?k9 ?kB ?_ ?c2 ?c3 ?c4 ?c5;
    (case k6 => k_is); (case k7 => k_is); (case k8 => ((have : recursionLimit = 1000 := rfl); omega)); (case k9 => first | exact BindsTo.of_eq rfl | exact binds_K (by k_in) rfl (by k_is) rfl rfl rfl); (case c5 => decide); (case kB => exact locs rfl); (case c2 => exact rfl); (case c3 => exact rfl); (case c4 => exact rfl))
  clear hA hu
  intro L h₁ tk₀ F N
  replace F : Fr s.heap L h₁ (mp [(Str.ofString "b", some (.int b u)), (Str.ofString "a", some (.int a t))]) := Fr.ofLookup F
  refine hideQ fun QQ hQQ => ?_

  try k_fold
  k_steps
  (rename Fr _ _ _ _ => F')
  subst hQQ
  exact Post.mk F' ⟨_, rfl⟩

theorem c_mul {a b : Int} {t u : Tok} (R : Rd 0 w A s.heap) (ha : -1000000 ≤ a ∧ a ≤ 1000000) (hb : -1000000 ≤ b ∧ b ≤ 1000000) : Ok w A (call (.ref 50) [.int a t, .int b u]) (fun v _ => ∃ k, v = .int (a * b) k) s := by
  obtain ⟨X, ⟨p, loose, mg, mb, T⟩, hA, hu, hh⟩ := R
  unfold Ok
  (
    refine' enter (by assumption) (TopRead.nolimit (by assumption)) ?k6 ?k7 ?k8 ?k9 ?kB ?_ ?c2 ?c3 ?c4 ?c5;
    (case k6 => k_is); (case k7 => k_is); (case k8 => ((have : recursionLimit = 1000 := rfl); omega)); (case k9 => first | exact BindsTo.of_eq rfl | exact binds_K (by k_in) rfl (by k_is) rfl rfl rfl); (case c5 => decide); (case kB => exact locs rfl); (case c2 => exact rfl); (case c3 => exact rfl); (case c4 => exact rfl))
  clear hA hu
  intro L h₁ tk₀ F N
  replace F : Fr s.heap L h₁ (mp [(Str.ofString "b", some (.int b u)), (Str.ofString "a", some (.int a t))]) := Fr.ofLookup F
  refine hideQ fun QQ hQQ => ?_

  try k_fold
  k_steps
  (rename Fr _ _ _ _ => F')
  subst hQQ
  exact Post.mk F' ⟨_, rfl⟩

theorem c_fdiv {a b : Int} {t u : Tok} (R : Rd 0 w A s.heap) (ha : -1000000 ≤ a ∧ a ≤ 1000000) (hb : 0 < b ∧ b ≤ 1000000) : Ok w A (call (.ref 43) [.int a t, .int b u]) (fun v _ => ∃ k, v = .int (Int.fdiv a b) k) s := by
  obtain ⟨X, ⟨p, loose, mg, mb, T⟩, hA, hu, hh⟩ := R
  unfold Ok
  have hb0 : b ≠ 0 := by omega
  (
    refine' enter (by assumption) (TopRead.nolimit (by assumption)) ?k6 ?k7 ?k8 ?k9 ?kB ?_ ?c2 ?c3 ?c4 ?c5;
    (case k6 => k_is); (case k7 => k_is); (case k8 => ((have : recursionLimit = 1000 := rfl); omega)); (case k9 => first | exact BindsTo.of_eq rfl | exact binds_K (by k_in) rfl (by k_is) rfl rfl rfl); (case c5 => decide); (case kB => exact locs rfl); (case c2 => exact rfl); (case c3 => exact rfl); (case c4 => exact rfl))
  clear hA hu
  intro L h₁ tk₀ F N
  replace F : Fr s.heap L h₁ (mp [(Str.ofString "b", some (.int b u)), (Str.ofString "a", some (.int a t))]) := Fr.ofLookup F
  refine hideQ fun QQ hQQ => ?_

  try k_fold
  k_steps
  (rename Fr _ _ _ _ => F')
  subst hQQ
  exact Post.mk F' ⟨_, rfl⟩

theorem c_concat {a b : List Nat} {t u : Tok} (R : Rd 0 w A s.heap) (ha : a.length ≤ 100) (hb : b.length ≤ 100) : Ok w A (call (.ref 64) [.str (S a) t, .str (S b) u]) (fun v _ => ∃ k, v = .str (S (a ++ b)) k) s := by
  obtain ⟨X, ⟨p, loose, mg, mb, T⟩, hA, hu, hh⟩ := R
  unfold Ok
  have ha' : Str.length (S a) ≤ 100 := by rw [S_len]; exact ha
  have hb' : Str.length (S b) ≤ 100 := by rw [S_len]; exact hb
  (
    refine' enter (by assumption) (TopRead.nolimit (by assumption)) ?k6 ?k7 ?k8 ?k9 ?kB ?_ ?c2 ?c3 ?c4 ?c5;
    (case k6 => k_is); (case k7 => k_is); (case k8 => ((have : recursionLimit = 1000 := rfl); omega)); (case k9 => first | exact BindsTo.of_eq rfl | exact binds_K (by k_in) rfl (by k_is) rfl rfl rfl); (case c5 => decide); (case kB => exact locs rfl); (case c2 => exact rfl); (case c3 => exact rfl); (case c4 => exact rfl))
  clear hA hu
  intro L h₁ tk₀ F N
  replace F : Fr s.heap L h₁ (mp [(Str.ofString "b", some (.str (S b) u)), (Str.ofString "a", some (.str (S a) t))]) := Fr.ofLookup F
  refine hideQ fun QQ hQQ => ?_

  try k_fold
  k_steps
  (rename Fr _ _ _ _ => F')
  rw [S_app]
  subst hQQ
  exact Post.mk F' ⟨_, rfl⟩

theorem c_contains {a : List Nat} {c : Nat} {t u : Tok} (R : Rd 0 w A s.heap) (ha : a.length ≤ 100) : Ok w A (call (.ref 71) [.str (S a) t, .str (S [c]) u]) (fun v _ => v = .bool (decide (c ∈ a))) s := by
  obtain ⟨X, ⟨p, loose, mg, mb, T⟩, hA, hu, hh⟩ := R
  unfold Ok
  have ha' : Str.length (S a) ≤ 100 := by rw [S_len]; exact ha
  have hb' : Str.length (S [c]) = 1 := rfl
  (
    refine' enter (by assumption) (TopRead.nolimit (by assumption)) ?k6 ?k7 ?k8 ?k9 ?kB ?_ ?c2 ?c3 ?c4 ?c5;
    (case k6 => k_is); (case k7 => k_is); (case k8 => ((have : recursionLimit = 1000 := rfl); omega)); (case k9 => first | exact BindsTo.of_eq rfl | exact binds_K (by k_in) rfl (by k_is) rfl rfl rfl); (case c5 => decide); (case kB => exact locs rfl); (case c2 => exact rfl); (case c3 => exact rfl); (case c4 => exact rfl))
  clear hA hu
  intro L h₁ tk₀ F N
  replace F : Fr s.heap L h₁ (mp [(Str.ofString "b", some (.str (S [c]) u)), (Str.ofString "a", some (.str (S a) t))]) := Fr.ofLookup F
  refine hideQ fun QQ hQQ => ?_

  try k_fold
  k_steps
  (rename Fr _ _ _ _ => F')
  rw [S_in]
  subst hQQ
  exact Post.mk F' rfl

theorem c_getS {a : List Nat} {c i : Nat} {t u : Tok} (R : Rd 0 w A s.heap) (ha : a.length ≤ 100) (hc : a[i]? = some c) : Ok w A (call (.ref 85) [.str (S a) t, .int (i : Int) u]) (fun v _ => ∃ k, v = .str (S [c]) k) s := by
  obtain ⟨X, ⟨p, loose, mg, mb, T⟩, hA, hu, hh⟩ := R
  unfold Ok
  have ha' := S_len a
  have hi : (i : Int) < ((S a).length : Int) := by have := (List.getElem?_eq_some_iff.mp hc).1; omega
  (
    refine' enter (by assumption) (TopRead.nolimit (by assumption)) ?k6 ?k7 ?k8 ?k9 ?kB ?_ ?c2 ?c3 ?c4 ?c5;
    (case k6 => k_is); (case k7 => k_is); (case k8 => ((have : recursionLimit = 1000 := rfl); omega)); (case k9 => first | exact BindsTo.of_eq rfl | exact binds_K (by k_in) rfl (by k_is) rfl rfl rfl); (case c5 => decide); (case kB => exact locs rfl); (case c2 => exact rfl); (case c3 => exact rfl); (case c4 => exact rfl))
  clear hA hu
  intro L h₁ tk₀ F N
  replace F : Fr s.heap L h₁ (mp [(Str.ofString "b", some (.int (i : Int) u)), (Str.ofString "a", some (.str (S a) t))]) := Fr.ofLookup F
  refine hideQ fun QQ hQQ => ?_

  try k_fold
  k_steps
  (rename Fr _ _ _ _ => F')
  rw [S_item a i c hc]
  subst hQQ
  exact Post.mk F' ⟨_, rfl⟩

theorem c_getL {a : Addr} {vs : List Value} {x : Value} {i : Nat} {u : Tok} (R : Rd 0 w A s.heap) (hl : s.heap.IsList a vs.toArray) (hlen : vs.length ≤ 1000) (hx : vs[i]? = some x) : Ok w A (call (.ref 85) [.ref a, .int (i : Int) u]) (fun v _ => v = x) s := by
  obtain ⟨X, ⟨p, loose, mg, mb, T⟩, hA, hu, hh⟩ := R
  unfold Ok
  (
    refine' enter (by assumption) (TopRead.nolimit (by assumption)) ?k6 ?k7 ?k8 ?k9 ?kB ?_ ?c2 ?c3 ?c4 ?c5;
    (case k6 => k_is); (case k7 => k_is); (case k8 => ((have : recursionLimit = 1000 := rfl); omega)); (case k9 => first | exact BindsTo.of_eq rfl | exact binds_K (by k_in) rfl (by k_is) rfl rfl rfl); (case c5 => decide); (case kB => exact locs rfl); (case c2 => exact rfl); (case c3 => exact rfl); (case c4 => exact rfl))
  clear hA hu
  intro L h₁ tk₀ F N
  replace F : Fr s.heap L h₁ (mp [(Str.ofString "b", some (.int (i : Int) u)), (Str.ofString "a", some (.ref a))]) := Fr.ofLookup F
  refine hideQ fun QQ hQQ => ?_
  have hl1 := fr_list F hl

  try k_fold
  k_steps
  subst hQQ
  exact Post.mk F rfl

theorem c_lenhint {a : List Nat} {t : Tok} (R : Rd 0 w A s.heap) (ha : a.length ≤ 100) : Ok w A (call (.ref 93) [.str (S a) t]) (fun v s' => ∃ k, v = .int (a.length : Int) k ∧ 0 < k ∧ k < s'.toks) s := by
  obtain ⟨X, ⟨p, loose, mg, mb, T⟩, hA, hu, hh⟩ := R
  unfold Ok
  have ha' : Str.length (S a) ≤ 100 := by rw [S_len]; exact ha
  (
    refine' enter (by assumption) (TopRead.nolimit (by assumption)) ?k6 ?k7 ?k8 ?k9 ?kB ?_ ?c2 ?c3 ?c4 ?c5;
    (case k6 => k_is); (case k7 => k_is); (case k8 => ((have : recursionLimit = 1000 := rfl); omega)); (case k9 => first | exact BindsTo.of_eq rfl | exact binds_K (by k_in) rfl (by k_is) rfl rfl rfl); (case c5 => decide); (case kB => exact locs rfl); (case c2 => exact rfl); (case c3 => exact rfl); (case c4 => exact rfl))
  clear hA hu
  intro L h₁ tk₀ F N
  replace F : Fr s.heap L h₁ (mp [(Str.ofString "default", some (.int 0 _)), (Str.ofString "obj", some (.str (S a) t))]) := Fr.ofLookup F
  refine hideQ fun QQ hQQ => ?_

  try k_fold
  k_steps
  (rename Fr _ _ _ _ => F')
  rw [S_len]
  subst hQQ
  exact Post.mk F' ⟨_, rfl, Nat.succ_pos _, Nat.lt_succ_self _⟩

end
end
local macro_rules | `(tactic| walk_at "pyIter ref") => `(tactic| (refine stop_ ?_))
local macro_rules | `(tactic| walk_at "TurnPost") => `(tactic| (refine stop_ ?_))
local macro_rules | `(tactic| walk_at "call ref") => `(tactic| (refine stop_ ?_))
local macro_rules | `(tactic| walk_at "exec For Name Call cons nil") => `(tactic| (k_dflt (refine wpAny_For ?_)))
local macro_rules | `(tactic| walk_at "storeName") => `(tactic| (k_dflt (refine stM ‹_› ‹_› ?_); intro h' F' N'; (try k_sweep)))
local macro_rules | `(tactic| walk_at "call builtin:chr") => `(tactic| (refine chr_of_range (by omega) (by omega) ?_))

/-! ## part Cnt -/
section
open PySem PySem.W PyProof.Rows PySem.Calls
theorem is_int {M : Model} {A : Around} {E : Value → Shared → Prop} {s : Shared} {p q : Int} {t u : Tok} {Q : Value → Shared → Prop} (hp : -5 ≤ p ∧ p ≤ 256) (ht : 0 < t) (hu : 0 < u) (htu : t ≠ u) (h : Q (.bool (decide (p = q))) s) :
    wpAny M A (compareOp .Is (.int p t) (.int q u)) Q E s := by
  show wpAny M A (do return .bool (← isSame (.int p t) (.int q u))) Q E s
  have ht0 : (t == 0) = false := by simpa using Nat.pos_iff_ne_zero.mp ht
  have hu0 : (u == 0) = false := by simpa using Nat.pos_iff_ne_zero.mp hu
  have htu0 : (t == u) = false := by simpa using htu
  refine wpAny_bind ?_
  unfold isSame
  by_cases e : p = q
  · subst e
    have hs : (p == p && smallInt p) = true := by simp [smallInt, hp]
    simp only [hs, if_true]
    unfold isSame.cachedInt
    simp only [ht0, hu0, Bool.or_false, Bool.false_eq_true, if_false]
    refine wpAny_bind (wpAny_rule (wpAny_pure (wpAny_pure ?_)))
    simpa using h
  · have hs : (p == q && smallInt p) = false := by simp [e]
    have he : (p == q) = false := by simp [e]
    simp only [hs, Bool.false_eq_true, if_false]
    unfold isSame.created
    simp only [ht0, hu0, htu0, he, Bool.or_false, Bool.false_eq_true, if_false, Bool.not_false, if_true]
    refine wpAny_pure (wpAny_pure ?_)
    simpa [e] using h
noncomputable def cntI (n : Int) (ns : List (Int × Tok)) : Nat := (ns.filter fun p => decide (p.1 = n)).length
theorem cnt_take {n : Int} {ns : List (Int × Tok)} {i : Nat} {p : Int × Tok} (h : ns[i]? = some p) : cntI n (ns.take (i + 1)) = cntI n (ns.take i) + if p.1 = n then 1 else 0 := by
  unfold cntI
  rw [List.take_add_one, h]
  by_cases e : p.1 = n <;> simp [e]
theorem cnt_le (n : Int) (ns : List (Int × Tok)) : cntI n ns ≤ ns.length := List.length_filter_le _ _
local macro_rules | `(tactic| walk_at "exec For Name Name cons nil") => `(tactic| (k_dflt (refine wpAny_For ?_)))
local macro_rules | `(tactic| walk_at "compareOp Is int int") => `(tactic| (k_dflt (refine is_int ‹_› ‹_› ‹_› ‹_› ?_)))
section
variable {w : World} {A : Around} {s : Shared} {E : Value → Shared → Prop}
set_option maxRecDepth 100000
set_option maxHeartbeats 8000000
theorem c_count {a : Addr} {ns : List (Int × Tok)} {n : Int} {u : Tok} (R : Rd 0 w A s.heap) (hl : s.heap.IsList a (ns.map fun p => Value.int p.1 p.2).toArray) (hlen : ns.length ≤ 1000) (hu0 : 0 < u) (hns : ∀ p ∈ ns, 0 ≤ p.1 ∧ p.1 ≤ 100 ∧ 0 < p.2 ∧ p.2 ≠ u) :
    Ok w A (call (.ref 78) [.ref a, .int n u]) (fun v _ => ∃ k, v = .int (cntI n ns : Int) k) s := by
  obtain ⟨X, ⟨p, loose, mg, mb, T⟩, hA, hu, hh⟩ := R
  unfold Ok
  (
    refine' enter (by assumption) (TopRead.nolimit (by assumption)) ?k6 ?k7 ?k8 ?k9 ?kB ?_ ?c2 ?c3 ?c4 ?c5;
    (case k6 => k_is); (case k7 => k_is); (case k8 => ((have : recursionLimit = 1000 := rfl); omega)); (case k9 => first | exact BindsTo.of_eq rfl | exact binds_K (by k_in) rfl (by k_is) rfl rfl rfl); (case c5 => decide); (case kB => exact locs rfl); (case c2 => exact rfl); (case c3 => exact rfl); (case c4 => exact rfl))
  clear hA hu
  intro L h₁ tk₀ F N
  replace F : Fr s.heap L h₁ (mp [(Str.ofString "b", some (.int n u)), (Str.ofString "a", some (.ref a))]) := Fr.ofLookup F
  refine hideQ fun QQ hQQ => ?_
  try dsimp only
  try k_fold
  k_steps
  (rename Fr _ _ _ _ => F'); (rename News _ _ _ _ => N')
  have hlL : a ≠ L := by
    obtain ⟨o, ho, _⟩ := hl
    exact Nat.ne_of_lt (Nat.lt_of_lt_of_le (Heap.lt_size ho) F'.above)
  obtain ⟨tc₀, F'⟩ : ∃ tc₀, Fr s.heap L _ (mp [(Str.ofString "b", some (.int n u)), (Str.ofString "a", some (.ref a)), (Str.ofString "count", some (.int ((0 : Nat) : Int) tc₀)), (Str.ofString "i", none)]) := ⟨_, Fr.slot (Str.ofString "i") F'⟩
  refine for_list (fun i m news => news = [] ∧ ∃ (tc : Tok) (vi : Option Value), m = mp [(Str.ofString "b", some (.int n u)), (Str.ofString "a", some (.ref a)), (Str.ofString "count", some (.int (cntI n (ns.take i) : Int) tc)), (Str.ofString "i", vi)]) hh rfl rfl rfl F' N' (fr_list F' hl) hlL ⟨rfl, _, _, rfl⟩ ?_ ?_ ?_ ?_
  · rintro i m₁ news₁ ⟨rfl, _⟩ p hp; cases hp
  · rintro i m₁ news₁ h₁ ⟨rfl, _⟩ hk _; exact hl.at fun o e => hk a o e
  · rintro i v m₁ news₁ h₂ tk₁ I oI hv ⟨rfl, tc, vi, rfl⟩ hlt F₁ N₁
    replace F₁ := Fr.up F₁
    refine hideQ fun QT hQT => ?_
    rw [List.getElem?_map] at hv
    obtain ⟨q, hq, rfl⟩ := Option.map_eq_some_iff.mp hv
    have hq4 := hns q (List.mem_of_getElem? hq)
    obtain ⟨hq1, hq2, hqp, hqt⟩ := hq4
    have hq3 : -5 ≤ q.1 ∧ q.1 ≤ 256 := by omega
    have hcl := cnt_le n (ns.take i)
    have hcl' : (ns.take i).length ≤ 1000 := by rw [List.length_take]; omega
    have hct := cnt_take (n := n) hq
    generalize cntI n (ns.take i) = c at *
    try k_fold
    k_steps
    · (rename Fr _ _ _ _ => F'); (rename News _ _ _ _ => N')
      rw [if_pos (by assumption)] at hct
      subst hQT
      rw [hct]
      exact TurnPost.next F' N' ⟨rfl, _, _, rfl⟩
    · exfalso; contradiction
    · (rename Fr _ _ _ _ => F'); (rename News _ _ _ _ => N')
      rw [if_neg (by assumption)] at hct
      subst hQT
      rw [hct]
      exact TurnPost.next F' N' ⟨rfl, _, _, rfl⟩
  · rintro m₁ news₁ h₂ tk₁ ⟨rfl, tc, vi, rfl⟩ F₁ N₁
    rw [List.length_map, List.take_length] at F₁
    try k_fold
    k_steps
    subst hQQ
    exact Post.mk F₁ ⟨_, rfl⟩
end
end

/-! ## part Num -/
section
open PySem PySem.W PyProof.Rows PySem.Calls
theorem rd0 {n : Nat} {w : World} {A : Around} {h h' : Heap} {L : Addr} {m : Str → Option Value} {env : Env} (R : Rd (n + 1) w A h) (F : Fr h L h' m) : Rd 0 w (A.deeper env) h' := Rd.keeps (Rd.less (Rd.deeper R env) (Nat.zero_le _)) F.keep
/-- the ways to choose, as the text reckons them -/
noncomputable def chI (n : Int) : Nat → Int
  | 0 => 1
  | k + 1 => Int.fdiv (chI n k * (n - k)) (k + 1)
theorem ch_bound : ∀ n < 7, ∀ k < 3, (-1000 ≤ chI (n : Nat) k ∧ chI (n : Nat) k ≤ 1000) ∧ (-1000000 ≤ chI (n : Nat) k * ((n : Int) - (k : Int)) ∧ chI (n : Nat) k * ((n : Int) - (k : Int)) ≤ 1000000) := by decide
local macro_rules | `(tactic| walk_at "UT") => `(tactic| (intro k h' tk' hk' F' N'; (try dsimp only); (try k_sweep)))
local macro_rules | `(tactic| walk_at "AO") => `(tactic| (first | assumption | omega))
local macro_rules | `(tactic| walk_at "call ref") => `(tactic| (k_dflt (refine Ok.useX (c_add (rd0 ‹_› ‹_›)) ‹_› ‹_› ?_); walk_at "UT"))
local macro_rules | `(tactic| walk_at "call ref") => `(tactic| (k_dflt (refine Ok.useX (c_sub (rd0 ‹_› ‹_›)) ‹_› ‹_› ?_); walk_at "UT"))
local macro_rules | `(tactic| walk_at "call ref") => `(tactic| (k_dflt (refine Ok.useX (c_mul (rd0 ‹_› ‹_›) (by walk_at "AO") (by walk_at "AO")) ‹_› ‹_› ?_); walk_at "UT"))
local macro_rules | `(tactic| walk_at "call ref") => `(tactic| (k_dflt (refine Ok.useX (c_fdiv (rd0 ‹_› ‹_›) (by walk_at "AO") (by walk_at "AO")) ‹_› ‹_› ?_); walk_at "UT"))
section
variable {w : World} {A : Around} {s : Shared} {E : Value → Shared → Prop}
set_option maxRecDepth 100000
set_option maxHeartbeats 8000000
theorem c_choose {n k : Nat} {t u : Tok} (R : Rd 1 w A s.heap) (hn : n ≤ 6) (hk : k ≤ 2) : Ok w A (call (.ref 110) [.int (n : Int) t, .int (k : Int) u]) (fun v _ => ∃ z, v = .int (chI n k) z) s := by
  have RR := R
  obtain ⟨X, ⟨p, loose, mg, mb, T⟩, hA, hu, hh⟩ := R
  unfold Ok
  (
    refine' enter (by assumption) (TopRead.nolimit (by assumption)) ?k6 ?k7 ?k8 ?k9 ?kB ?_ ?c2 ?c3 ?c4 ?c5;
    (case k6 => k_is); (case k7 => k_is); (case k8 => ((have : recursionLimit = 1000 := rfl); omega)); (case k9 => first | exact BindsTo.of_eq rfl | exact binds_K (by k_in) rfl (by k_is) rfl rfl rfl); (case c5 => decide); (case kB => exact locs rfl); (case c2 => exact rfl); (case c3 => exact rfl); (case c4 => exact rfl))
  clear hA hu
  intro L h₁ tk₀ F N
  replace F : Fr s.heap L h₁ (mp [(Str.ofString "few", some (.int (k : Int) u)), (Str.ofString "things", some (.int (n : Int) t))]) := Fr.ofLookup F
  refine hideQ fun QQ hQQ => ?_
  try k_fold
  k_steps
  (rename Fr _ _ _ _ => F'); (rename News _ _ _ _ => N'); (rename IsRange _ _ _ _ _ _ _ _ => hR)
  obtain ⟨tw₀, F'⟩ : ∃ tw₀, Fr s.heap L _ (mp [(Str.ofString "few", some (.int (k : Int) u)), (Str.ofString "things", some (.int (n : Int) t)), (Str.ofString "ways", some (.int (chI n 0) tw₀)), (Str.ofString "k", none)]) := ⟨_, Fr.slot (Str.ofString "k") F'⟩
  refine for_range (n := k) (fun i m news => news = [] ∧ i ≤ k ∧ ∃ (tw : Tok) (vk : Option Value), m = mp [(Str.ofString "few", some (.int (k : Int) u)), (Str.ofString "things", some (.int (n : Int) t)), (Str.ofString "ways", some (.int (chI n i) tw)), (Str.ofString "k", vk)]) hh rfl rfl rfl F' N' hR (by omega) (by omega) (by omega) ⟨rfl, Nat.zero_le _, _, _, rfl⟩ ?_ ?_ ?_
  · rintro i m₁ news₁ ⟨rfl, _⟩ p hp; cases hp
  · rintro i ti m₁ news₁ h₂ tk₁ I oI hi ⟨rfl, hik, tw, vk, rfl⟩ hlt F₁ N₁
    clear F' N' hR
    replace F₁ := Fr.up F₁
    rw [Int.zero_add] at F₁
    obtain ⟨hb1, hb2⟩ := ch_bound n (by omega) i (by omega)
    have hb3 : -1000000 ≤ chI n i ∧ chI n i ≤ 1000000 := by omega
    refine hideQ fun QT hQT => ?_
    try k_fold
    k_steps
    (rename Fr _ _ _ _ => F'); (rename News _ _ _ _ => N')
    subst hQT
    exact TurnPost.next F' N' ⟨rfl, hi, _, _, rfl⟩
  · rintro m₁ news₁ h₂ tk₁ ⟨rfl, _, tw, vk, rfl⟩ F₁ N₁
    clear F' N' hR
    try k_fold
    k_steps
    subst hQQ
    exact Post.mk F₁ ⟨_, rfl⟩
theorem c_chooseI {x y : Int} {t u : Tok} (R : Rd 1 w A s.heap) (hx : 0 ≤ x ∧ x ≤ 6) (hy : 0 ≤ y ∧ y ≤ 2) : Ok w A (call (.ref 110) [.int x t, .int y u]) (fun v _ => ∃ z, v = .int (chI x y.toNat) z) s := by
  obtain ⟨n, rfl⟩ := Int.eq_ofNat_of_zero_le hx.1
  obtain ⟨k, rfl⟩ := Int.eq_ofNat_of_zero_le hy.1
  exact c_choose R (by omega) (by omega)
theorem rd1 {n : Nat} {w : World} {A : Around} {h h' : Heap} {L : Addr} {m : Str → Option Value} {env : Env} (R : Rd (n + 2) w A h) (F : Fr h L h' m) : Rd 1 w (A.deeper env) h' := Rd.keeps (Rd.less (Rd.deeper R env) (by omega)) F.keep
local macro_rules | `(tactic| walk_at "call ref") => `(tactic| (k_dflt (refine Ok.useX (c_chooseI (rd1 ‹_› ‹_›) (by omega) (by omega)) ‹_› ‹_› ?_); walk_at "UT"))
noncomputable def smI (n e a b l : Nat) : Int := chI l e * chI ((n : Int) - 2 * (l : Int)) l * ((b : Int) ^ (2 * l) * (a : Int) ^ (n - 3 * l))
noncomputable def wyI (n e a b : Nat) : Nat → Int
  | 0 => 0
  | j + 1 => if j % 2 = 0 then wyI n e a b j + smI n e a b (e + j) else wyI n e a b j - smI n e a b (e + j)
noncomputable def inM (x : Int) : Bool := decide (-1000000 ≤ x) && decide (x ≤ 1000000)
theorem inM_of {x : Int} (h : inM x = true) : -1000000 ≤ x ∧ x ≤ 1000000 := by unfold inM at h; simpa using h
noncomputable def okW (n l e a b : Nat) : Bool := !(decide (e ≤ l) && decide (3 * l ≤ n)) || (inM (chI l e * chI ((n : Int) - 2 * (l : Int)) l) && inM ((b : Int) ^ (2 * l)) && inM ((b : Int) ^ (2 * l) * (a : Int) ^ (n - 3 * l)))
theorem okW_all : (List.range 7).all (fun n => (List.range 3).all fun l => (List.range 3).all fun e => (List.range 4).all fun a => (List.range 3).all fun b => okW n l e a b) = true := by decide +kernel
theorem ways_bound {n l e a b : Nat} (hn : n < 7) (hl : l < 3) (he : e < 3) (ha : a < 4) (hb : b < 3) (hel : e ≤ l) (hln : 3 * l ≤ n) :
    (-1000000 ≤ chI l e * chI ((n : Int) - 2 * (l : Int)) l ∧ chI l e * chI ((n : Int) - 2 * (l : Int)) l ≤ 1000000) ∧
    (-1000000 ≤ (b : Int) ^ (2 * l) ∧ (b : Int) ^ (2 * l) ≤ 1000000) ∧
    (-1000000 ≤ (b : Int) ^ (2 * l) * (a : Int) ^ (n - 3 * l) ∧ (b : Int) ^ (2 * l) * (a : Int) ^ (n - 3 * l) ≤ 1000000) := by
  have h := okW_all
  simp only [List.all_eq_true, List.mem_range] at h
  have := h n hn l hl e he a ha b hb
  unfold okW at this
  simp only [hel, hln, decide_true, Bool.and_self, Bool.not_true, Bool.false_or, Bool.and_eq_true] at this
  exact ⟨inM_of this.1.1, inM_of this.1.2, inM_of this.2⟩
theorem bits_of {a : Int} (h : -1000000 ≤ a ∧ a ≤ 1000000) : Builtin.Int.intBits a ≤ 64 := by
  unfold Builtin.Int.intBits
  split
  · omega
  · rename_i hz
    have hz' : a ≠ 0 := by simpa using hz
    have : a.natAbs.log2 < 63 := (Nat.log2_lt (by omega)).mpr (by omega)
    omega
local macro_rules | `(tactic| walk_at "binaryOp Mult int int") => `(tactic| (k_dflt (refine PySem.mul_int ?_ (IntMulOk.of_left (bits_of (by walk_at "AO"))))))
noncomputable def InB (x : Int) : Prop := -1000000 ≤ x ∧ x ≤ 1000000
theorem ways_facts {n l e a b : Nat} (hn : n ≤ 6) (he : e ≤ 2) (ha : a ≤ 3) (hb : b ≤ 2) (hel : e ≤ l) (hln : 3 * l ≤ n) :
    InB (chI (l : Int) (Int.toNat (e : Int))) ∧ InB (chI ((n : Int) - 2 * (l : Int)) (Int.toNat (l : Int))) ∧ InB (chI (l : Int) (Int.toNat (e : Int)) * chI ((n : Int) - 2 * (l : Int)) (Int.toNat (l : Int))) ∧
    InB ((b : Int) ^ Int.toNat (2 * (l : Int))) ∧ InB ((b : Int) ^ Int.toNat (2 * (l : Int)) * (a : Int) ^ Int.toNat ((n : Int) - 3 * (l : Int))) ∧ Int.toNat (2 * (l : Int)) = 2 * l ∧ Int.toNat ((n : Int) - 3 * (l : Int)) = n - 3 * l := by
  have hl2 : l ≤ 2 := by omega
  have hB := ways_bound (n := n) (l := l) (e := e) (a := a) (b := b) (Nat.lt_succ_of_le hn) (Nat.lt_succ_of_le hl2) (Nat.lt_succ_of_le he) (Nat.lt_succ_of_le ha) (Nat.lt_succ_of_le hb) hel hln
  have e2 : Int.toNat (2 * (l : Int)) = 2 * l := by omega
  have e3 : Int.toNat ((n : Int) - 3 * (l : Int)) = n - 3 * l := by omega
  have e0 : ((n - 2 * l : Nat) : Int) = (n : Int) - 2 * (l : Int) := by omega
  rw [e2, e3, Int.toNat_natCast, Int.toNat_natCast]
  have h1 := (ch_bound l (by omega) e (Nat.lt_succ_of_le he)).1
  have h2 := (ch_bound (n - 2 * l) (by omega) l (Nat.lt_succ_of_le hl2)).1
  rw [e0] at h2
  have wide : ∀ x : Int, -1000 ≤ x ∧ x ≤ 1000 → InB x := fun x h => ⟨by omega, by omega⟩
  exact ⟨wide _ h1, wide _ h2, hB.1, hB.2.1, hB.2.2, rfl, rfl⟩
theorem c_ways {n e a b : Nat} {t u v z : Tok} (R : Rd 2 w A s.heap) (hn : n ≤ 6) (he : e ≤ 2) (ha : a ≤ 3) (hb : b ≤ 2) : Ok w A (call (.ref 117) [.int (n : Int) t, .int (e : Int) u, .int (a : Int) v, .int (b : Int) z]) (fun v _ => ∃ z, v = .int (wyI n e a b (n / 3 + 1 - e)) z) s := by
  have RR := R
  obtain ⟨X, ⟨p, loose, mg, mb, T⟩, hA, hu, hh⟩ := R
  unfold Ok
  (
    refine' enter (by assumption) (TopRead.nolimit (by assumption)) ?k6 ?k7 ?k8 ?k9 ?kB ?_ ?c2 ?c3 ?c4 ?c5;
    (case k6 => k_is); (case k7 => k_is); (case k8 => ((have : recursionLimit = 1000 := rfl); omega)); (case k9 => first | exact BindsTo.of_eq rfl | exact binds_K (by k_in) rfl (by k_is) rfl rfl rfl); (case c5 => decide); (case kB => exact locs rfl); (case c2 => exact rfl); (case c3 => exact rfl); (case c4 => exact rfl))
  clear hA hu
  intro L h₁ tk₀ F N
  replace F : Fr s.heap L h₁ (mp [(Str.ofString "figures", some (.int (b : Int) z)), (Str.ofString "signs", some (.int (a : Int) v)), (Str.ofString "escapes", some (.int (e : Int) u)), (Str.ofString "size", some (.int (n : Int) t))]) := Fr.ofLookup F
  refine hideQ fun QQ hQQ => ?_
  try k_fold
  k_steps
  (rename Fr _ _ _ _ => F'); (rename News _ _ _ _ => N'); (rename IsRange _ _ _ _ _ _ _ _ => hR)
  have hfd : Int.fdiv (n : Int) 3 = ((n / 3 : Nat) : Int) := by rw [Int.fdiv_eq_ediv_of_nonneg _ (by decide)]; omega
  rw [hfd] at hR
  obtain ⟨tw₀, F'⟩ : ∃ tw₀, Fr s.heap L _ (mp [(Str.ofString "figures", some (.int (b : Int) z)), (Str.ofString "signs", some (.int (a : Int) v)), (Str.ofString "escapes", some (.int (e : Int) u)), (Str.ofString "size", some (.int (n : Int) t)), (Str.ofString "ways", some (.int (wyI n e a b 0) tw₀)), (Str.ofString "laid", none), (Str.ofString "some", none)]) := ⟨_, Fr.slot (Str.ofString "some") (Fr.slot (Str.ofString "laid") F')⟩
  refine for_range (n := n / 3 + 1 - e) (fun i m news => news = [] ∧ ∃ (tw : Tok) (vk vs : Option Value), m = mp [(Str.ofString "figures", some (.int (b : Int) z)), (Str.ofString "signs", some (.int (a : Int) v)), (Str.ofString "escapes", some (.int (e : Int) u)), (Str.ofString "size", some (.int (n : Int) t)), (Str.ofString "ways", some (.int (wyI n e a b i) tw)), (Str.ofString "laid", vk), (Str.ofString "some", vs)]) hh rfl rfl rfl F' N' hR (by omega) (by omega) (by omega) ⟨rfl, _, _, _, rfl⟩ ?_ ?_ ?_
  · rintro i m₁ news₁ ⟨rfl, _⟩ p hp; cases hp
  · rintro i ti m₁ news₁ h₂ tk₁ I oI hi ⟨rfl, tw, vk, vs, rfl⟩ hlt F₁ N₁
    clear F' N' hR
    replace F₁ := Fr.up F₁
    rw [← Int.natCast_add] at F₁
    obtain ⟨l, hl⟩ : ∃ l, l = e + i := ⟨_, rfl⟩
    rw [← hl] at F₁
    have hel : e ≤ l := by omega
    have hln : 3 * l ≤ n := by omega
    obtain ⟨hB1, hB2, hB3, hB4, hB5, e2, e3⟩ := ways_facts (n := n) (l := l) (e := e) (a := a) (b := b) hn he ha hb hel hln
    unfold InB at hB4
    refine hideQ fun QT hQT => ?_
    try k_fold
    k_steps
    · (rename Fr _ _ _ _ => F'); (rename News _ _ _ _ => N')
      rw [e2, e3, Int.toNat_natCast, Int.toNat_natCast] at F'
      have hw : wyI n e a b (i + 1) = wyI n e a b i + chI (l : Int) e * chI ((n : Int) - 2 * (l : Int)) l * ((b : Int) ^ (2 * l) * (a : Int) ^ (n - 3 * l)) := by
        show (if i % 2 = 0 then wyI n e a b i + smI n e a b (e + i) else wyI n e a b i - smI n e a b (e + i)) = _
        have q : Int.fmod ((l : Int) - (e : Int)) 2 = 0 := by assumption
        rw [Int.fmod_eq_emod_of_nonneg _ (by decide)] at q
        rw [if_pos (by omega), ← hl]; rfl
      subst hQT
      rw [hw]
      exact TurnPost.next F' N' ⟨rfl, _, _, _, rfl⟩
    · (rename Fr _ _ _ _ => F'); (rename News _ _ _ _ => N')
      rw [e2, e3, Int.toNat_natCast, Int.toNat_natCast] at F'
      have hw : wyI n e a b (i + 1) = wyI n e a b i - chI (l : Int) e * chI ((n : Int) - 2 * (l : Int)) l * ((b : Int) ^ (2 * l) * (a : Int) ^ (n - 3 * l)) := by
        show (if i % 2 = 0 then wyI n e a b i + smI n e a b (e + i) else wyI n e a b i - smI n e a b (e + i)) = _
        have q : Int.fmod ((l : Int) - (e : Int)) 2 ≠ 0 := by assumption
        rw [Int.fmod_eq_emod_of_nonneg _ (by decide)] at q
        rw [if_neg (by omega), ← hl]; rfl
      subst hQT
      rw [hw]
      exact TurnPost.next F' N' ⟨rfl, _, _, _, rfl⟩
  · rintro m₁ news₁ h₂ tk₁ ⟨rfl, tw, vk, vs, rfl⟩ F₁ N₁
    clear F' N' hR
    try k_fold
    k_steps
    subst hQQ
    exact Post.mk F₁ ⟨_, rfl⟩
end
end

/-! ## part Due -/
section
open PySem PySem.W PyProof.Rows PySem.Calls
theorem rd2 {n : Nat} {w : World} {A : Around} {h h' : Heap} {L : Addr} {m : Str → Option Value} {env : Env} (R : Rd (n + 3) w A h) (F : Fr h L h' m) : Rd 2 w (A.deeper env) h' := Rd.keeps (Rd.less (Rd.deeper R env) (by omega)) F.keep
section
variable {w : World} {A : Around} {s : Shared} {E : Value → Shared → Prop}
theorem c_waysI {x y a b : Int} {t u v z : Tok} (R : Rd 2 w A s.heap) (hx : 0 ≤ x ∧ x ≤ 6) (hy : 0 ≤ y ∧ y ≤ 2) (ha : 0 ≤ a ∧ a ≤ 3) (hb : 0 ≤ b ∧ b ≤ 2) : Ok w A (call (.ref 117) [.int x t, .int y u, .int a v, .int b z]) (fun v _ => ∃ z, v = .int (wyI x.toNat y.toNat a.toNat b.toNat (x.toNat / 3 + 1 - y.toNat)) z) s := by
  obtain ⟨x, rfl⟩ := Int.eq_ofNat_of_zero_le hx.1
  obtain ⟨y, rfl⟩ := Int.eq_ofNat_of_zero_le hy.1
  obtain ⟨a, rfl⟩ := Int.eq_ofNat_of_zero_le ha.1
  obtain ⟨b, rfl⟩ := Int.eq_ofNat_of_zero_le hb.1
  exact c_ways R (by omega) (by omega) (by omega) (by omega)
end
/-- a list object that holds these ints -/
structure LI (ns : List Int) (o : Obj) : Prop where
  cls : o.cls = .type "list"
  dat : ∃ vs n, o.data = .seq (List.toArray vs) n ∧ IntsAre vs ns
theorem LI.isList {h₀ h : Heap} {L D : Addr} {news : List (Addr × Obj)} {ns : List Int} {o : Obj} (N : News h₀ L h news) (hm : (D, o) ∈ news) (I : LI ns o) : ∃ vs, h.IsList D (List.toArray vs) ∧ IntsAre vs ns :=
  let ⟨vs, n, hd, hi⟩ := I.dat
  ⟨vs, ⟨o, (N _ hm).1, I.cls, n, hd⟩, hi⟩
section
variable {prog : Program} {w : World} {A : Around} {E : Value → Shared → Prop} {s : Shared} {h₀ : Heap} {L D : Addr} {m : Str → Option Value} {news : List (Addr × Obj)} {ns : List Int} {o : Obj} {k x : Int} {t u : Tok}
theorem get_LI {Q : Value → Shared → Prop} (N : News h₀ L s.heap news) (hm : (D, o) ∈ news) (I : LI ns o) (h0 : 0 ≤ k) (h1 : k < (ns.length : Int)) (hl : ns.length ≤ 1000) (h : ∀ t, Q (.int (ns.getD k.toNat 0) t) s) :
    wpAny (model prog w) A (getItem (.ref D) (.int k u)) Q E s := by
  obtain ⟨vs, hL, hi⟩ := LI.isList N hm I
  have hlt : k.toNat < ns.length := by omega
  obtain ⟨t, ht⟩ := hi.get k.toNat ns[k.toNat] (by simp [hlt])
  have e : ns.getD k.toNat 0 = ns[k.toNat] := by simp [hlt]
  rw [e] at h
  exact wpAny_getItem_list hL h0 (by omega) (by simpa using ht) (h t)
theorem set_LI {Q : Unit → Shared → Prop} {p1 p2 : Addr × Obj} (F : Fr h₀ L s.heap m) (N : News h₀ L s.heap [p1, p2, (D, o)]) (n1 : p1.1 ≠ D) (n2 : p2.1 ≠ D) (I : LI ns o) (h0 : 0 ≤ k) (h1 : k < (ns.length : Int)) (hl : ns.length ≤ 1000)
    (h : ∀ h' o', LI (ns.set k.toNat x) o' → Fr h₀ L h' m → News h₀ L h' [p1, p2, (D, o')] → Q () { s with heap := h' }) :
    wpAny (model prog w) A (setItem (.ref D) (.int k t) (.int x u)) Q E s := by
  obtain ⟨vs, hL, hi⟩ := LI.isList N (.tail _ (.tail _ (.head _))) I
  have hlen := hi.length
  have ND := N _ (.tail _ (.tail _ (.head _)))
  refine wpAny_setItem_list hL h0 (by omega) (by rw [List.size_toArray]; omega) fun h' hL' hs => ?_
  obtain ⟨o', ho', hc', n', hd'⟩ := hL'
  refine h h' o' ⟨hc', vs.set k.toNat (.int x u), n', by rw [hd']; congr 1; simp, ints_set hi _⟩ (Fr.but F (Ne.symm ND.2.1) ND.2.2 hs.extBut) fun p hp => ?_
  rcases List.mem_cons.mp hp with rfl | hp
  · have := N _ (.head _); exact ⟨hs.extBut _ _ n1 this.1, this.2⟩
  rcases List.mem_cons.mp hp with rfl | hp
  · have := N _ (.tail _ (.head _)); exact ⟨hs.extBut _ _ n2 this.1, this.2⟩
  rcases List.mem_cons.mp hp with rfl | hp
  · exact ⟨ho', ND.2⟩
  · cases hp
end
noncomputable def stepD (a b : Nat) (wh : Bool) (kept : Nat) (xs : List Int) (e : Nat) : List Int :=
  let ends := wyI (kept - 1) e a b ((kept - 1) / 3 + 1 - e)
  let xs1 := xs.set (kept - 2 * e) (xs.getD (kept - 2 * e) 0 + (wyI kept e a b (kept / 3 + 1 - e) - (if wh then 2 * ends else ends)))
  xs1.set (kept - 2 * e - 1) (xs1.getD (kept - 2 * e - 1) 0 + ends)
noncomputable def innerD (a b : Nat) (wh : Bool) (kept : Nat) (xs : List Int) : Nat → List Int
  | 0 => xs
  | e + 1 => stepD a b wh kept (innerD a b wh kept xs e) e
noncomputable def outerD (a b : Nat) (wh : Bool) (k0 : Nat) (xs : List Int) : Nat → List Int
  | 0 => xs
  | i + 1 => innerD a b wh (k0 + i) (outerD a b wh k0 xs i) ((k0 + i) / 3 + 1)
theorem stepD_len (a b : Nat) (wh : Bool) (kept : Nat) (xs : List Int) (e : Nat) : (stepD a b wh kept xs e).length = xs.length := by unfold stepD; simp
theorem innerD_len (a b : Nat) (wh : Bool) (kept : Nat) (xs : List Int) : ∀ e, (innerD a b wh kept xs e).length = xs.length
  | 0 => rfl
  | e + 1 => by rw [innerD, stepD_len, innerD_len a b wh kept xs e]
theorem outerD_len (a b : Nat) (wh : Bool) (k0 : Nat) (xs : List Int) : ∀ i, (outerD a b wh k0 xs i).length = xs.length
  | 0 => rfl
  | i + 1 => by rw [outerD, innerD_len, outerD_len a b wh k0 xs i]
local macro_rules | `(tactic| walk_at "UT") => `(tactic| (intro k h' tk' hk' F' N'; (try dsimp only); (try k_sweep)))
local macro_rules | `(tactic| walk_at "BL") => `(tactic| (first | assumption | omega | (simp only [List.length_set]; first | assumption | omega)))
local macro_rules | `(tactic| walk_at "call ref") => `(tactic| (k_dflt (refine Ok.useX (c_waysI (rd2 ‹_› ‹_›) (by omega) (by omega) (by omega) (by omega)) ‹_› ‹_› ?_); walk_at "UT"))
local macro_rules | `(tactic| walk_at "getItem ref int") => `(tactic| (k_dflt (refine get_LI ‹_› (by k_mem) ‹_› (by walk_at "BL") (by walk_at "BL") (by walk_at "BL") ?_); intro t'))
local macro_rules | `(tactic| walk_at "setItem ref int") => `(tactic| (k_dflt (refine set_LI ‹_› ‹_› ‹_› ‹_› ‹_› (by walk_at "BL") (by walk_at "BL") (by walk_at "BL") ?_); intro h' o' I' F' N'; (try k_sweep)))
/-- the def of _law_due, out of the row -/
noncomputable def lastB (d e : Stmt) : List Stmt → Stmt
  | [] => d
  | x :: r => lastB e x r
noncomputable def bodyD : Stmt → List Stmt
  | .FunctionDef _ _ b _ _ _ _ _ _ _ => b
  | _ => []
noncomputable def scopeD : Stmt → Scope
  | .FunctionDef _ _ _ _ _ _ s _ _ _ => s
  | _ => default
noncomputable def forBody : List Stmt → List Stmt
  | _ :: .For _ _ b _ _ :: _ => b
  | _ => []
noncomputable def dueDef : Stmt := lastB (.Pass ⟨0, 0, 0, 0⟩) (.Pass ⟨0, 0, 0, 0⟩) PySem.Challenge.pw_rs0071_01.main.body
/-- the body of its outer loop -/
noncomputable def dueBody : List Stmt := forBody (bodyD dueDef)
noncomputable def dueEnv (L : Addr) : Env := envOf (Str.ofString "_law_due") (scopeD dueDef) L 124 (.ref 123)
noncomputable def dueFr (f b a n : Nat) (z u t v : Tok) (wh : Bool) (D : Addr) (vk ve vn : Option Value) : List (Str × Option Value) :=
  [(Str.ofString "fed", some (.int (f : Int) z)), (Str.ofString "white", some (.bool wh)), (Str.ofString "figures", some (.int (b : Int) v)), (Str.ofString "signs", some (.int (a : Int) u)), (Str.ofString "size", some (.int (n : Int) t)), (Str.ofString "due", some (.ref D)), (Str.ofString "kept", vk), (Str.ofString "escapes", ve), (Str.ofString "ends", vn)]
noncomputable def DuePost (s : Shared) (J : Heap → Prop) (fl : Flow) (s' : Shared) : Prop := fl = .next ∧ ∃ h' tk', s' = { s with heap := h', toks := tk' } ∧ J h'
local macro_rules | `(tactic| walk_at "DuePost") => `(tactic| (refine stop_ ?_))
/-- what _law_due gives -/
noncomputable def dueX (n a b : Nat) (wh : Bool) (f : Nat) : List Int :=
  if wh = true then outerD a b true 1 ([2, -(f : Int)] ++ List.flatten (List.replicate (Int.toNat ((n : Int) - 1)) [0])) n
  else outerD a b false n ([1 + (f : Int), -(f : Int)] ++ List.flatten (List.replicate (Int.toNat ((n : Int) - 1)) [0])) 1
theorem zeros_len {x y : Int} {n : Nat} (hn : 1 ≤ n) : ([x, y] ++ List.flatten (List.replicate (Int.toNat ((n : Int) - 1)) [(0 : Int)])).length = n + 1 := by
  rw [List.flatten_replicate_singleton, List.length_append, List.length_replicate]
  show 2 + Int.toNat ((n : Int) - 1) = n + 1
  omega
theorem LI.of {vs : List Value} {ns : List Int} (h : IntsAre vs ns) : LI ns (W.listOf (List.toArray vs) 0) := ⟨rfl, vs, _, rfl, h⟩
section
variable {w : World} {A : Around} {s : Shared} {E : Value → Shared → Prop}
set_option maxRecDepth 100000
set_option maxHeartbeats 8000000
theorem due_turn {f a b n k : Nat} {z u t v ti : Tok} {wh : Bool} {D I L : Addr} {oI oD : Obj} {h : Heap} {tk : Nat} {xs : List Int} {ve vn : Option Value} (R : Rd 3 w A s.heap) (ha : a ≤ 3) (hb : b ≤ 2) (hn6 : n ≤ 6) (hk1 : 1 ≤ k) (hkn : k ≤ n) (hxl : xs.length = n + 1) (hID : I ≠ D) (hI₁ : LI xs oD)
    (F : Fr s.heap L h (mp (dueFr f b a n z u t v wh D (some (.int (k : Int) ti)) ve vn))) (N : News s.heap L h [(I, oI), (D, oD)]) :
    wpAny (model PR w) (A.deeper (dueEnv L)) (execs dueBody (dueEnv L)) (DuePost s fun h' => ∃ oD' ve' vn', Fr s.heap L h' (mp (dueFr f b a n z u t v wh D (some (.int (k : Int) ti)) ve' vn')) ∧ News s.heap L h' [(I, oI), (D, oD')] ∧ LI (innerD a b wh k xs (k / 3 + 1)) oD') (fun _ _ => False) { s with heap := h, toks := tk } := by
  have RR := R
  obtain ⟨X, ⟨p, loose, mg, mb, T⟩, hA, hu, hh⟩ := R
  dsimp only [dueFr] at F
  dsimp only [dueBody, dueEnv, dueDef, bodyD, scopeD, forBody, PySem.Challenge.pw_rs0071_01, lastB]
  refine hideQ fun QQ hQQ => ?_
  try k_fold
  k_steps
  (rename Fr _ _ _ _ => F'); (rename News _ _ _ _ => N'); (rename IsRange _ _ _ _ _ _ _ _ => hR)
  have hfd : Int.fdiv (k : Int) 3 = ((k / 3 : Nat) : Int) := by rw [Int.fdiv_eq_ediv_of_nonneg _ (by decide)]; omega
  rw [hfd] at hR
  have hNlt : ∀ p ∈ [(I, oI), (D, oD)], p.1 < _ := fun p hp => Heap.lt_size (N' p hp).1
  refine for_range (n := k / 3 + 1) (fun e m news => ∃ (oD : Obj) (ve vn : Option Value), news = [(I, oI), (D, oD)] ∧ LI (innerD a b wh k xs e) oD ∧ m = mp (dueFr f b a n z u t v wh D (some (.int (k : Int) ti)) ve vn)) hh rfl rfl rfl F' N' hR (by omega) (by omega) (by omega) ⟨oD, _, _, rfl, hI₁, rfl⟩ ?_ ?_ ?_
  · rintro e m₁ news₁ ⟨oD', ve, vn, rfl, _, rfl⟩ p hp
    simp only [List.mem_cons, List.not_mem_nil, or_false] at hp
    rcases hp with rfl | rfl
    · exact hNlt (I, oI) (.head _)
    · exact hNlt (D, oD) (.tail _ (.head _))
  · rintro e te m₁ news₁ h₃ tk₂ I₂ oI₂ he ⟨oD', ve, vn, rfl, hI₂, rfl⟩ hlt₂ F₂ N₂
    clear F' N' hR
    replace F₂ := Fr.up F₂
    rw [Int.zero_add] at F₂
    dsimp only [dueFr] at F₂
    have hil := innerD_len a b wh k xs e
    rw [show innerD a b wh k xs (e + 1) = stepD a b wh k (innerD a b wh k xs e) e from rfl]
    generalize innerD a b wh k xs e = ys at hI₂ hil ⊢
    rw [hxl] at hil
    have hI2D : I₂ ≠ D := Ne.symm (Nat.ne_of_lt (hlt₂ _ (.tail _ (.head _))))
    have q1 : Int.toNat ((k : Int) - 2 * (e : Int)) = k - 2 * e := by omega
    have q2 : Int.toNat ((k : Int) - 2 * (e : Int) - 1) = k - 2 * e - 1 := by omega
    have q3 : Int.toNat ((k : Int) - 1) = k - 1 := by omega
    have g1 : 0 ≤ (k : Int) - 2 * (e : Int) := by omega
    have g2 : (k : Int) - 2 * (e : Int) < (ys.length : Int) := by omega
    have g3 : 0 ≤ (k : Int) - 2 * (e : Int) - 1 := by omega
    have g4 : (k : Int) - 2 * (e : Int) - 1 < (ys.length : Int) := by omega
    have g5 : ys.length ≤ 1000 := by omega
    clear hI₁ hxl hNlt hlt₂ hfd
    refine hideQ fun QT hQT => ?_
    try k_fold
    k_steps
    all_goals ((rename Fr _ _ _ _ => F'); (rename News _ _ _ _ => N'); (rename LI _ _ => hI₃); (rename (wh = _) => hw))
    all_goals rw [q1, q2, q3, Int.toNat_natCast, Int.toNat_natCast, Int.toNat_natCast, Int.toNat_natCast] at hI₃
    all_goals subst hw
    all_goals subst hQT
    all_goals exact TurnPost.next F' N' ⟨_, _, _, rfl, hI₃, rfl⟩
  · rintro m₁ news₁ h₃ tk₂ ⟨oD', ve, vn, rfl, hI₂, rfl⟩ F₂ N₂
    clear F' N' hR
    try k_fold
    k_steps
    try unfold Stop
    subst hQQ
    exact ⟨rfl, _, _, rfl, oD', _, _, F₂, N₂, hI₂⟩

theorem due_loop {f a b n k0 m : Nat} {z u t v t1 u1 v1 : Tok} {wh : Bool} {D r L : Addr} {oD : Obj} {h : Heap} {tk : Nat} {px : Pos} {xs : List Int} {Q : Flow → Shared → Prop} (R : Rd 3 w A s.heap) (ha : a ≤ 3) (hb : b ≤ 2) (hn6 : n ≤ 6) (hk1 : 1 ≤ k0) (hm : k0 + m = n + 1) (hxl : xs.length = n + 1) (hI : LI xs oD)
    (F : Fr s.heap L h (mp (dueFr f b a n z u t v wh D none none none))) (N : News s.heap L h [(D, oD)]) (hR : IsRange h r (k0 : Int) ((n : Int) + 1) 1 t1 u1 v1)
    (done : ∀ h' tk' oD' vk ve vn, Fr s.heap L h' (mp (dueFr f b a n z u t v wh D vk ve vn)) → News s.heap L h' [(D, oD')] → LI (outerD a b wh k0 xs m) oD' → Q .next { s with heap := h', toks := tk' }) :
    wpAny (model PR w) (A.deeper (dueEnv L)) (pyIter (.ref r)) (fun it s₂ => codeAny (model PR w) (A.deeper (dueEnv L)) (.forLoop (.Name (Str.ofString "kept") px) it dueBody [] (dueEnv L))
      (fun r s' => match r with | .ok f => Q f s' | .error e => cameBackBy (model PR w) (A.deeper (dueEnv L)) (dueEnv L) (fun _ _ => False) e s') s₂) (fun _ _ => False) { s with heap := h, toks := tk } := by
  have hh := R.hh
  have hD := Heap.lt_size (N _ (.head _)).1
  refine for_range (n := m) (fun i m news => ∃ (oD : Obj) (vk ve vn : Option Value), news = [(D, oD)] ∧ LI (outerD a b wh k0 xs i) oD ∧ m = mp (dueFr f b a n z u t v wh D vk ve vn)) hh rfl rfl rfl F N hR (by omega) (by omega) (by omega) ⟨oD, _, _, _, rfl, hI, rfl⟩ ?_ ?_ ?_
  · rintro i m₁ news₁ ⟨oD, vk, ve, vn, rfl, _, rfl⟩ p hp
    rw [List.mem_singleton.mp hp]; exact hD
  · rintro i ti m₁ news₁ h₂ tk₁ I oI hi ⟨oD, vk, ve, vn, rfl, hI₁, rfl⟩ hlt F₁ N₁
    replace F₁ := Fr.up F₁
    have hk1 : (k0 : Int) + (i : Int) = ((k0 + i : Nat) : Int) := rfl
    rw [hk1] at F₁
    refine wpAny_mono (due_turn (s := s) (n := n) (k := k0 + i) R ha hb (by omega) (by omega) (by omega) ((outerD_len a b wh k0 xs i).trans hxl) (Ne.symm (Nat.ne_of_lt (hlt _ (.head _)))) hI₁ F₁ N₁) ?_ fun _ _ e => e
    rintro fl s' ⟨rfl, h', tk', rfl, oD', ve', vn', F₂, N₂, hI₂⟩
    exact TurnPost.next F₂ N₂ ⟨oD', _, _, _, rfl, hI₂, rfl⟩
  · rintro m₁ news₁ h₂ tk₁ ⟨oD, vk, ve, vn, rfl, hI₁, rfl⟩ F₁ N₁
    exact done _ _ _ _ _ _ F₁ N₁ hI₁
theorem c_due {a b f n : Nat} {wh : Bool} {t u v z : Tok} (R : Rd 3 w A s.heap) (ha : a ≤ 3) (hb : b ≤ 2) (hf : f ≤ 1) (hn1 : 1 ≤ n) (hn6 : n ≤ 6) : Ok w A (call (.ref 124) [.int (n : Int) t, .int (a : Int) u, .int (b : Int) v, .bool wh, .int (f : Int) z]) (fun v s' => ∃ D vs, v = .ref D ∧ s.heap.get? D = none ∧ s'.heap.IsList D (List.toArray vs) ∧ IntsAre vs (dueX n a b wh f)) s := by
  have RR := R
  obtain ⟨X, ⟨p, loose, mg, mb, T⟩, hA, hu, hh⟩ := R
  unfold Ok
  (
    refine' enter (by assumption) (TopRead.nolimit (by assumption)) ?k6 ?k7 ?k8 ?k9 ?kB ?_ ?c2 ?c3 ?c4 ?c5;
    (case k6 => k_is); (case k7 => k_is); (case k8 => ((have : recursionLimit = 1000 := rfl); omega)); (case k9 => first | exact BindsTo.of_eq rfl | exact binds_K (by k_in) rfl (by k_is) rfl rfl rfl); (case c5 => decide); (case kB => exact locs rfl); (case c2 => exact rfl); (case c3 => exact rfl); (case c4 => exact rfl))
  clear hA hu
  intro L h₁ tk₀ F N
  replace F : Fr s.heap L h₁ (mp [(Str.ofString "fed", some (.int (f : Int) z)), (Str.ofString "white", some (.bool wh)), (Str.ofString "figures", some (.int (b : Int) v)), (Str.ofString "signs", some (.int (a : Int) u)), (Str.ofString "size", some (.int (n : Int) t))]) := Fr.ofLookup F
  refine hideQ fun QQ hQQ => ?_
  try k_fold
  k_steps
  · unfold Stop
    (rename Fr _ _ _ _ => F'); (rename News _ _ _ _ => N'); (rename IsRange _ _ _ _ _ _ _ _ => hR); (rename IntsAre _ _ => hi); (rename (wh = _) => hw)
    subst hw
    refine due_loop (s := s) (k0 := 1) (m := n) (xs := [2, -(f : Int)] ++ List.flatten (List.replicate (Int.toNat ((n : Int) - 1)) [0])) RR ha hb hn6 (Nat.le_refl 1) (Nat.add_comm 1 n) (zeros_len hn1) (LI.of hi) (Fr.slot (Str.ofString "ends") (Fr.slot (Str.ofString "escapes") (Fr.slot (Str.ofString "kept") F'))) (fun p hp => N' p (List.mem_cons.mpr (.inl (List.mem_singleton.mp hp)))) hR ?_
    intro h' tk' oD' vk ve vn F₁ N₁ hI₁
    clear F' N' hR
    obtain ⟨vs, hL, hi⟩ := LI.isList N₁ (.head _) hI₁
    dsimp only [dueFr] at F₁
    try k_fold
    k_steps
    subst hQQ
    exact Post.mk F₁ ⟨_, vs, rfl, (N₁ _ (.head _)).2.2, hL, hi⟩
  · unfold Stop
    (rename Fr _ _ _ _ => F'); (rename News _ _ _ _ => N'); (rename IsRange _ _ _ _ _ _ _ _ => hR); (rename IntsAre _ _ => hi); (rename (wh = _) => hw)
    subst hw
    refine due_loop (s := s) (k0 := n) (m := 1) (xs := [1 + (f : Int), -(f : Int)] ++ List.flatten (List.replicate (Int.toNat ((n : Int) - 1)) [0])) RR ha hb hn6 hn1 rfl (zeros_len hn1) (LI.of hi) (Fr.slot (Str.ofString "ends") (Fr.slot (Str.ofString "escapes") (Fr.slot (Str.ofString "kept") F'))) (fun p hp => N' p (List.mem_cons.mpr (.inl (List.mem_singleton.mp hp)))) hR ?_
    intro h' tk' oD' vk ve vn F₁ N₁ hI₁
    clear F' N' hR
    obtain ⟨vs, hL, hi⟩ := LI.isList N₁ (.head _) hI₁
    dsimp only [dueFr] at F₁
    try k_fold
    k_steps
    subst hQQ
    exact Post.mk F₁ ⟨_, vs, rfl, (N₁ _ (.head _)).2.2, hL, hi⟩
end
end

/-! ## part Dec -/
section
open PySem PySem.W PyProof.Rows PySem.Calls
noncomputable def okC (c : Nat) : Prop := c = 9 ∨ (32 ≤ c ∧ c ≤ 126)
theorem noBreak : ∀ c < 127, (c = 9 ∨ 32 ≤ c) → Unicode.isLineBreak c = false := by decide +kernel
theorem nb_of {l : List Nat} (h : ∀ c ∈ l, okC c) : ∀ i, Unicode.isLineBreak ((S l).cps.getD i 0) = false := by
  intro i
  have e : (S l).cps.getD i 0 = l.getD i 0 := by simp [S]
  rw [e]
  cases q : l[i]? with
  | none => rw [List.getD_eq_getElem?_getD, q]; decide +kernel
  | some c =>
    rw [List.getD_eq_getElem?_getD, q]
    have := h c (List.mem_of_getElem? q)
    rcases this with rfl | ⟨h1, h2⟩
    · decide +kernel
    · exact noBreak c (by omega) (.inr h1)


abbrev HX : Str := Str.ofString "0123456789abcdefABCDEF"
theorem lf_last {l : List Nat} (hok : ∀ c ∈ l, okC c) (hl : ((S l).length : Int) ≠ 0) {b : Bool} (h : (Builtin.Str.occurrences (Str.ofString "\r\n") (Txt.item (S l) (-1)) 0 (Str.ofString "\r\n").length 1).isEmpty = b) : b = true := by
  rw [S_len] at hl
  rcases List.eq_nil_or_concat l with rfl | ⟨r, a, rfl⟩
  · simp at hl
  · have hit : Txt.item (S (r.concat a)) (-1) = S [a] := by
      unfold Txt.item Txt.charAt
      have e : seqIndex? (-1) (S (r.concat a)).length = some r.length := by
        rw [S_len]; unfold seqIndex?; simp; omega
      rw [e]
      show Str.mk #[(((r.concat a).toArray)[r.length]?).getD 0] = _
      simp [S]
    rw [hit, crnl_S] at h
    have := S_in [13, 10] a
    rw [h] at this
    have ha := hok a (by simp)
    have hn : a ∉ [13, 10] := by
      rcases ha with rfl | ⟨h1, h2⟩
      · decide
      · simp; omega
    cases b
    · simp [hn] at this
    · rfl
theorem lf_go_hex {r d rest : List Nat} {i c a b : Nat} {r' : List Nat} (hg : d ++ go (r.drop i) = go r) (hd : r.drop i = c :: rest) (hc : c = 61) (hrest : rest = a :: b :: r') (e3 : r.drop (i + 3) = r') (ha : a ∈ hexL) (hb : b ∈ hexL) (hn : i + 3 ≠ r.length) (hi : i + 2 < r.length) :
    d ++ [16 * hexV a + hexV b] ++ go (r.drop (i + 3)) = go r := by
  have : r' ≠ [] := by
    rintro rfl
    have := congrArg List.length e3
    simp at this; omega
  rw [← hg, hd, hc, hrest, go_hex ha hb, if_neg this, e3]; simp
theorem lf_go_hex_end {r d rest : List Nat} {i c a b : Nat} {r' : List Nat} (hg : d ++ go (r.drop i) = go r) (hd : r.drop i = c :: rest) (hc : c = 61) (hrest : rest = a :: b :: r') (e3 : r.drop (i + 3) = r') (ha : a ∈ hexL) (hb : b ∈ hexL) (hn : i + 3 = r.length) :
    d ++ [16 * hexV a + hexV b] ++ [10] ++ go (r.drop (i + 3)) = go r := by
  have : r' = [] := by rw [← e3, hn]; simp
  rw [← hg, hd, hc, hrest, go_hex ha hb, if_pos this, e3, this, go_nil]; simp
theorem lf_item {r : List Nat} {i : Nat} (h : (i : Int) < ((S r).length : Int)) : ∃ c rest, r.drop i = c :: rest ∧ r.drop (i + 1) = rest ∧ Txt.item (S r) (i : Int) = S [c] := by
  rw [S_len] at h
  have h' : i < r.length := by omega
  refine ⟨r[i], r.drop (i + 1), List.drop_eq_getElem_cons h', rfl, S_item r i _ (by simp [h'])⟩
theorem lf_ne {x : Str} {c : Nat} (e : x = S [c]) (h : (x != Str.ofString "=") = true) : c ≠ 61 := by
  rw [e, S_eqsign] at h; simpa using h
theorem lf_eq {x : Str} {c : Nat} (e : x = S [c]) (h : (x != Str.ofString "=") = false) : c = 61 := by
  rw [e, S_eqsign] at h; simpa using h
theorem lf_hex {r : List Nat} {i : Nat} {k : Int} {c : Nat} (hk : k = (i : Int)) (hc : r[i]? = some c) {b : Bool} (h : (Builtin.Str.occurrences HX (Txt.item (S r) k) 0 HX.length 1).isEmpty = b) : (c ∈ hexL ↔ b = false) := by
  subst hk
  rw [S_item r i c hc, show HX = S hexL from hexdigits_S] at h
  have := S_in hexL c
  rw [h] at this
  cases b <;> simp_all
theorem lf_go_ne {r d rest : List Nat} {i c : Nat} (hg : d ++ go (r.drop i) = go r) (hd : r.drop i = c :: rest) (hd' : r.drop (i + 1) = rest) (hc : c ≠ 61) (hn : i + 1 ≠ r.length) (hi : i < r.length) : d ++ [c] ++ go (r.drop (i + 1)) = go r := by
  have : rest ≠ [] := by
    rintro rfl
    have := congrArg List.length hd'
    simp at this; omega
  rw [← hg, hd, go_ne hc, if_neg this, hd']; simp
theorem lf_go_ne_end {r d rest : List Nat} {i c : Nat} (hg : d ++ go (r.drop i) = go r) (hd : r.drop i = c :: rest) (hd' : r.drop (i + 1) = rest) (hc : c ≠ 61) (hn : i + 1 = r.length) : d ++ [c] ++ [10] ++ go (r.drop (i + 1)) = go r := by
  have : rest = [] := by rw [← hd', hn]; simp
  rw [← hg, hd, go_ne hc, if_pos this, hd', this, go_nil]; simp
theorem lf_go_soft {r d rest : List Nat} {i c : Nat} (hg : d ++ go (r.drop i) = go r) (hd : r.drop i = c :: rest) (hd' : r.drop (i + 1) = rest) (hc : c = 61) (hn : i + 1 = r.length) : d ++ go (r.drop (i + 1)) = go r := by
  have : rest = [] := by rw [← hd', hn]; simp
  rw [← hg, hd, hd', this, hc, go_end, go_nil]
theorem lf_go_eq {r d rest : List Nat} {i c : Nat} (hg : d ++ go (r.drop i) = go r) (hd : r.drop i = c :: rest) (hd' : r.drop (i + 1) = rest) (hc : c = 61) (hn : i + 1 ≠ r.length) (hi : i < r.length)
    (hx : ∀ a b r', rest = a :: b :: r' → ¬ (a ∈ hexL ∧ b ∈ hexL)) : d ++ [c] ++ go (r.drop (i + 1)) = go r := by
  have : rest ≠ [] := by
    rintro rfl
    have := congrArg List.length hd'
    simp at this; omega
  subst hc
  rw [← hg, hd, go_eq this hx, hd']; simp
theorem lf_two {r rest : List Nat} {i a b : Nat} {r' : List Nat} (hd' : r.drop (i + 1) = rest) (h : rest = a :: b :: r') : r[i + 1]? = some a ∧ r[i + 2]? = some b ∧ i + 2 < r.length ∧ r.drop (i + 3) = r' := by
  rw [h] at hd'
  have e1 : r[i + 1]? = some a := by
    have := congrArg (fun q => q[0]?) hd'
    simpa using this
  have e2 : r[i + 2]? = some b := by
    have := congrArg (fun q => q[1]?) hd'
    simpa [Nat.add_assoc] using this
  refine ⟨e1, e2, (List.getElem?_eq_some_iff.mp e2).1, ?_⟩
  have := congrArg (fun q => q.drop 2) hd'
  simpa [List.drop_drop, Nat.add_comm, Nat.add_assoc, Nat.add_left_comm] using this
theorem lf_three {r rest : List Nat} {i : Nat} (hd' : r.drop (i + 1) = rest) (hi : i + 2 < r.length) : ∃ a b r', rest = a :: b :: r' := by
  match rest, hd' with
  | [], h => have := congrArg List.length h; simp at this; omega
  | [a], h => have := congrArg List.length h; simp at this; omega
  | a :: b :: r', _ => exact ⟨a, b, r', rfl⟩

section
variable {r d : List Nat} {i c e : Nat}
theorem k_dl (h : (i : Int) < ((S r).length : Int)) : r.length - (i + 1) < r.length - i := by rw [S_len] at h; omega
theorem k_dle (h : (i : Int) < ((S r).length : Int)) : i + 1 ≤ r.length := by rw [S_len] at h; omega
theorem k_dl3 (h : (i : Int) + 2 < ((S r).length : Int)) : r.length - (i + 3) < r.length - i := by rw [S_len] at h; omega
theorem k_dle3 (h : (i : Int) + 2 < ((S r).length : Int)) : i + 3 ≤ r.length := by rw [S_len] at h; omega
theorem k_lt2 (h : (i : Int) + 2 < ((S r).length : Int)) : i + 2 < r.length := k_dle3 h
theorem k_nlt2 (h : ¬ (i : Int) + 2 < ((S r).length : Int)) (h' : i + 2 < r.length) : False := by rw [S_len] at h; omega
theorem k_eq (h : (i : Int) + 1 = ((S r).length : Int)) : i + 1 = r.length := by rw [S_len] at h; omega
theorem k_ne (h : (i : Int) + 1 ≠ ((S r).length : Int)) : i + 1 ≠ r.length := by rw [S_len] at h; omega
theorem k_eq3 (h : (i : Int) + 3 = ((S r).length : Int)) : i + 3 = r.length := by rw [S_len] at h; omega
theorem k_ne3 (h : (i : Int) + 3 ≠ ((S r).length : Int)) : i + 3 ≠ r.length := by rw [S_len] at h; omega
theorem k_le0 (h : d.length ≤ 2 * i) : d.length ≤ 2 * (i + 1) := by omega
theorem k_le1 (h : d.length ≤ 2 * i) : (d ++ [c]).length ≤ 2 * (i + 1) := by rw [List.length_append]; exact Nat.le_trans (Nat.succ_le_succ h) (by omega)
theorem k_le2 (h : d.length ≤ 2 * i) : (d ++ [c] ++ [e]).length ≤ 2 * (i + 1) := by rw [List.length_append, List.length_append]; exact Nat.succ_le_succ (Nat.succ_le_succ h)
theorem k_up (h : d.length ≤ 2 * (i + 1)) : d.length ≤ 2 * (i + 3) := by omega
end
local macro_rules | `(tactic| walk_at "call builtin:str.splitlines") => `(tactic| ((with_reducible refine splitlines1 ‹_› ‹_› (by omega) (by omega) ‹_› ?_); intro a h' k u F' N' l1; (try k_lt l1); (try k_sweep)))
local macro_rules | `(tactic| walk_at "exec While Compare cons nil") => `(tactic| (refine stop_ ?_))
local macro_rules | `(tactic| walk_at "WhilePost") => `(tactic| (refine stop_ ?_))
local macro_rules | `(tactic| walk_at "Keeps") => `(tactic| (exact kept_of ‹_›))
theorem hexV_le : ∀ a ∈ hexL, hexV a ≤ 15 := by decide
theorem sl13 (a b : Nat) : Txt.slice (S [61, a, b]) (some 1) (some 3) = { cps := #[a, b] } := rfl
local macro_rules | `(tactic| walk_at "call type:int") => `(tactic| ((with_reducible show wpAny _ _ (call (Value.type "int") [Value.str (Txt.slice _ _ _) _, Value.int _ _]) _ _ _); rw [sl13]; refine call_hex ‹_› ‹_› ?_))
section
variable {w : World} {A : Around} {s : Shared} {E : Value → Shared → Prop}
set_option maxRecDepth 100000
set_option maxHeartbeats 8000000
theorem c_unq {a b : Nat} {tk : Tok} (R : Rd 0 w A s.heap) (ha : a ∈ hexL) (hb : b ∈ hexL) : Ok w A (call (.ref 21) [.str (S [61, a, b]) tk]) (fun v _ => ∃ k, v = .str (S [16 * hexV a + hexV b]) k) s := by
  obtain ⟨X, ⟨p, loose, mg, mb, T⟩, hA, hu, hh⟩ := R
  unfold Ok
  have hv := hexV_le a ha
  have hv' := hexV_le b hb
  have h3 : Str.length (S [61, a, b]) = 3 := rfl
  (
    refine' enter (by assumption) (TopRead.nolimit (by assumption)) ?k6 ?k7 ?k8 ?k9 ?kB ?_ ?c2 ?c3 ?c4 ?c5;
    (case k6 => k_is); (case k7 => k_is); (case k8 => ((have : recursionLimit = 1000 := rfl); omega)); (case k9 => first | exact BindsTo.of_eq rfl | exact binds_K (by k_in) rfl (by k_is) rfl rfl rfl); (case c5 => decide); (case kB => exact locs rfl); (case c2 => exact rfl); (case c3 => exact rfl); (case c4 => exact rfl))
  intro L h₁ tk₀ F N
  replace F : Fr s.heap L h₁ (mp [(Str.ofString "s", some (.str (S [61, a, b]) tk))]) := Fr.ofLookup F
  try k_fold
  k_steps
  (rename Fr _ _ _ _ => F')
  exact Post.mk F' ⟨_, rfl⟩

theorem c_dec {l : List Nat} {tke : Tok} (R : Rd 1 w A s.heap) (hl : l.length ≤ 10) (hok : ∀ c ∈ l, okC c) : Ok w A (call (.ref 29) [.str (S l) tke]) (fun v _ => ∃ k, v = .str (S (if l = [] then [] else decL (rs l))) k) s := by
  have RR := R
  obtain ⟨X, ⟨p, loose, mg, mb, T⟩, hA, hu, hh⟩ := R
  have hnb := nb_of hok
  have hlS : Str.length (S l) ≤ 10 := by rw [S_len]; exact hl
  have h10 : Str.length (S [10]) = 1 := rfl
  unfold Ok
  (
    refine' enter (by assumption) (TopRead.nolimit (by assumption)) ?k6 ?k7 ?k8 ?k9 ?kB ?_ ?c2 ?c3 ?c4 ?c5;
    (case k6 => k_is); (case k7 => k_is); (case k8 => ((have : recursionLimit = 1000 := rfl); omega)); (case k9 => first | exact BindsTo.of_eq rfl | exact binds_K (by k_in) rfl (by k_is) rfl rfl rfl); (case c5 => decide); (case kB => exact locs rfl); (case c2 => exact rfl); (case c3 => exact rfl); (case c4 => exact rfl))
  clear hA hu
  intro L h₁ tk₀ F N
  replace F : Fr s.heap L h₁ (mp [(Str.ofString "eol", some (.str (S [10]) 189)), (Str.ofString "encoded", some (.str (S l) tke))]) := nl_S ▸ Fr.ofLookup F
  refine hideQ fun QQ hQQ => ?_
  try k_fold
  k_steps
  · (rename News _ _ _ _ => N'); (rename Fr _ _ _ _ => F')
    refine for_list (fun i m news => news = _ ∧ ((i = 0 ∧ m = _) ∨ (i = 1 ∧ ∃ (td : Tok) (vl vi vn vc : Option Value), m = mp [(Str.ofString "eol", some (.str (S [10]) 189)), (Str.ofString "encoded", some (.str (S l) tke)), (Str.ofString "decoded", some (.str (S (outL (rs l))) td)), (Str.ofString "line", vl), (Str.ofString "i", vi), (Str.ofString "n", vn), (Str.ofString "c", vc)]))) hh rfl rfl rfl F' N' (News.isList N' (.head _)) (N' _ (.head _)).2.1 ⟨rfl, Or.inl ⟨rfl, rfl⟩⟩ ?_ ?_ ?_ ?_
    · rintro i m₁ news₁ ⟨rfl, _⟩ p hp
      exact Heap.lt_size (N' p hp).1
    · rintro i m₁ news₁ h₁ ⟨rfl, _⟩ _ N₁
      exact News.isList N₁ (.head _)
    · rintro i v m₁ news₁ h₁ tk₁ I oI hv ⟨rfl, (⟨rfl, rfl⟩ | ⟨rfl, _⟩)⟩ hlt F₁ N₁
      · replace F₁ := Fr.up F₁
        refine hideQ fun QT hQT => ?_
        simp only [List.getElem?_cons_zero] at hv
        injection hv with hv
        subst hv
        try k_fold
        k_steps
        · clear F₁ N₁ 
          (rename News _ _ _ _ => N'); (rename Fr _ _ _ _ => F')
          rw [S_rstrip] at *
          generalize hr : rs l = r at *
          obtain ⟨tl, tn, ti₀, td₀, F'⟩ : ∃ tl tn ti₀ td₀, Fr s.heap L _ (mp [(Str.ofString "eol", some (.str (S [10]) 189)), (Str.ofString "encoded", some (.str (S l) tke)), (Str.ofString "decoded", some (.str (S []) td₀)), (Str.ofString "line", some (.str (S r) tl)), (Str.ofString "i", some (.int ((0 : Nat) : Int) ti₀)), (Str.ofString "n", some (.int ((S r).length : Int) tn)), (Str.ofString "c", none)]) := ⟨_, _, _, _, empty_S ▸ Fr.slot (Str.ofString "c") F'⟩
          refine while_inv (fun n m news => news = _ ∧ ∃ (i : Nat) (d : List Nat) (ti td : Tok) (vc : Option Value), n = r.length - i ∧ i ≤ r.length ∧ d.length ≤ 2 * i ∧ d ++ go (r.drop i) = go r ∧ m = mp [(Str.ofString "eol", some (.str (S [10]) 189)), (Str.ofString "encoded", some (.str (S l) tke)), (Str.ofString "decoded", some (.str (S d) td)), (Str.ofString "line", some (.str (S r) tl)), (Str.ofString "i", some (.int (i : Int) ti)), (Str.ofString "n", some (.int ((S r).length : Int) tn)), (Str.ofString "c", vc)]) _ F' N' ⟨rfl, 0, _, _, _, none, rfl, Nat.zero_le _, Nat.zero_le _, rfl, rfl⟩ ?_
          rintro n m₁ news₁ h₂ tk₂ QW hQW F₂ N₂ ⟨rfl, i, d, ti, td, vc, rfl, hi, hd, hg, rfl⟩
          have hrl := S_len r
          have hdS : Str.length (S d) ≤ 40 := by rw [S_len]; omega
          try k_fold
          k_steps
          · (rename News _ _ _ _ => N'); (rename Fr _ _ _ _ => F')
            obtain ⟨c, rest, hdr, hdr', hit⟩ := lf_item (r := r) (i := i) (by assumption)
            have hne := lf_ne hit (by assumption)
            rw [hit, S_app, S_app] at F'
            subst hQW
            exact WhilePost.next F' N' (n' := r.length - (i + 1)) (k_dl (by assumption)) ⟨rfl, i + 1, d ++ [c] ++ [10], _, _, _, rfl, k_dle (by assumption), k_le2 hd, lf_go_ne_end hg hdr hdr' hne (k_eq (by assumption)), rfl⟩
          · (rename News _ _ _ _ => N'); (rename Fr _ _ _ _ => F')
            obtain ⟨c, rest, hdr, hdr', hit⟩ := lf_item (r := r) (i := i) (by assumption)
            have hne := lf_ne hit (by assumption)
            rw [hit, S_app] at F'
            subst hQW
            exact WhilePost.next F' N' (n' := r.length - (i + 1)) (k_dl (by assumption)) ⟨rfl, i + 1, d ++ [c], _, _, _, rfl, k_dle (by assumption), k_le1 hd, lf_go_ne hg hdr hdr' hne (k_ne (by assumption)) (k_dle (by assumption)), rfl⟩
          · (rename News _ _ _ _ => N'); (rename Fr _ _ _ _ => F')
            obtain ⟨c, rest, hdr, hdr', hit⟩ := lf_item (r := r) (i := i) (by assumption)
            have hne := lf_eq hit (by assumption)
            rw [hit] at F'
            try unfold Stop
            dsimp only
            subst hQW
            exact WhilePost.cont F' N' (n' := r.length - (i + 1)) (k_dl (by assumption)) ⟨rfl, i + 1, d, _, _, _, rfl, k_dle (by assumption), k_le0 hd, lf_go_soft hg hdr hdr' hne (k_eq (by assumption)), rfl⟩
          · exfalso; omega
          · (rename News _ _ _ _ => N'); (rename Fr _ _ _ _ => F')
            obtain ⟨c, rest, hdr, hdr', hit⟩ := lf_item (r := r) (i := i) (by assumption)
            have hne := lf_eq hit (by assumption)
            (rename (List.isEmpty _ = true) => hx)
            rw [hit, S_app] at F'
            subst hQW
            exact WhilePost.next F' N' (n' := r.length - (i + 1)) (k_dl (by assumption)) ⟨rfl, i + 1, d ++ [c], _, _, _, rfl, k_dle (by assumption), k_le1 hd, lf_go_eq hg hdr hdr' hne (k_ne (by assumption)) (k_dle (by assumption)) (fun a b r' h q => by
              have := (lf_hex (i := i + 1) rfl (lf_two hdr' h).1 hx).mp q.1; cases this), rfl⟩
          · exfalso; omega
          · (rename News _ _ _ _ => N'); (rename Fr _ _ _ _ => F')
            obtain ⟨c, rest, hdr, hdr', hit⟩ := lf_item (r := r) (i := i) (by assumption)
            have hne := lf_eq hit (by assumption)
            (rename (List.isEmpty _ = true) => hx)
            rw [hit, S_app] at F'
            subst hQW
            exact WhilePost.next F' N' (n' := r.length - (i + 1)) (k_dl (by assumption)) ⟨rfl, i + 1, d ++ [c], _, _, _, rfl, k_dle (by assumption), k_le1 hd, lf_go_eq hg hdr hdr' hne (k_ne (by assumption)) (k_dle (by assumption)) (fun a b r' h q => by
              have := (lf_hex (i := i + 2) rfl (lf_two hdr' h).2.1 hx).mp q.2; cases this), rfl⟩
          · (rename News _ _ _ _ => N'); (rename Fr _ _ _ _ => F')
            obtain ⟨c, rest, hdr, hdr', hit⟩ := lf_item (r := r) (i := i) (by assumption)
            have hne := lf_eq hit (by assumption)
            obtain ⟨a, b, r', hrest⟩ := lf_three hdr' (k_lt2 (by assumption))
            obtain ⟨e1, e2, _, e3⟩ := lf_two hdr' hrest
            have ha : a ∈ hexL := (lf_hex (i := i + 1) (k := (i : Int) + 1) rfl e1 (by assumption)).mpr rfl
            have hb : b ∈ hexL := (lf_hex (i := i + 2) (k := (i : Int) + 2) rfl e2 (by assumption)).mpr rfl
            rw [S_slice3 r i c a b r' (by rw [hdr, hrest]), hne]
            refine Ok.use (c_unq (Rd.keeps (Rd.deeper RR _) (Fr.keep F')) ha hb) F' N' ?_
            clear F' N'
            rintro v h' tk' _ F' N' ⟨k2, rfl⟩
            have h1 : ∀ x, Str.length (S [x]) = 1 := fun _ => rfl
            have h1' := h1 (16 * hexV a + hexV b)
            try k_fold
            k_steps
            · (rename News _ _ _ _ => N'); (rename Fr _ _ _ _ => F')
              rw [S_app, S_app] at F'
              subst hQW
              exact WhilePost.next F' N' (n' := r.length - (i + 3)) (k_dl3 (by assumption)) ⟨rfl, i + 3, _, _, _, _, rfl, k_dle3 (by assumption), k_up (k_le2 hd), lf_go_hex_end hg hdr hne hrest e3 ha hb (k_eq3 (by assumption)), rfl⟩
            · (rename News _ _ _ _ => N'); (rename Fr _ _ _ _ => F')
              rw [S_app] at F'
              subst hQW
              exact WhilePost.next F' N' (n' := r.length - (i + 3)) (k_dl3 (by assumption)) ⟨rfl, i + 3, _, _, _, _, rfl, k_dle3 (by assumption), k_up (k_le1 hd), lf_go_hex hg hdr hne hrest e3 ha hb (k_ne3 (by assumption)) (k_lt2 (by assumption)), rfl⟩
          · exfalso; omega
          · (rename News _ _ _ _ => N'); (rename Fr _ _ _ _ => F')
            obtain ⟨c, rest, hdr, hdr', hit⟩ := lf_item (r := r) (i := i) (by assumption)
            have hne := lf_eq hit (by assumption)
            rw [hit, S_app] at F'
            subst hQW
            exact WhilePost.next F' N' (n' := r.length - (i + 1)) (k_dl (by assumption)) ⟨rfl, i + 1, d ++ [c], _, _, _, rfl, k_dle (by assumption), k_le1 hd, lf_go_eq hg hdr hdr' hne (k_ne (by assumption)) (k_dle (by assumption)) (fun a b r' h q => by
              exact k_nlt2 (by assumption) (lf_two hdr' h).2.2.1), rfl⟩
          · (rename News _ _ _ _ => N'); (rename Fr _ _ _ _ => F')
            have hin : i = r.length := by omega
            rw [hin, List.drop_length, go_nil, List.append_nil] at hg
            subst hg
            have hne : r ≠ [] := by rintro rfl; rename (((S []).length : Int) ≠ 0) => q; exact q rfl
            have ho : go r = outL r := (if_neg hne).symm
            rw [ho] at F'
            subst hQT
            exact TurnPost.next F' N' ⟨rfl, Or.inr ⟨by first | rfl | trivial, _, _, _, _, _, rfl⟩⟩
        · (rename News _ _ _ _ => N'); (rename Fr _ _ _ _ => F')
          rename (((Txt.rstrip (S l)).length : Int) = 0) => q
          have hz : rs l = [] := by rw [S_rstrip, S_len] at q; exact List.eq_nil_of_length_eq_zero (by omega)
          rw [empty_S, S_app] at F'
          have ho : S ([] ++ [10]) = S (outL (rs l)) := by unfold outL; rw [if_pos hz]; rfl
          rw [ho] at F'
          try unfold Stop
          subst hQT
          exact TurnPost.cont (Fr.slot (Str.ofString "c") (Fr.slot (Str.ofString "n") (Fr.slot (Str.ofString "i") F'))) N' ⟨rfl, Or.inr ⟨by first | rfl | trivial, _, _, _, _, _, rfl⟩⟩
      · cases hv
    · rintro m₁ news₁ h₁ tk₁ ⟨rfl, (⟨h, _⟩ | ⟨_, td, vl, vi, vn, vc, rfl⟩)⟩ F₁ N₁
      · cases h
      · have hlen : Str.length (S (outL (rs l))) ≤ 40 := by rw [S_len]; have := outL_len (rs l); have := rs_len l; omega
        have hnn : l ≠ [] := by rintro rfl; rename (((S []).length : Int) ≠ 0) => q; exact q rfl
        try k_fold
        k_steps
        · (rename Fr _ _ _ _ => F')
          rename (Txt.endswith _ _ = true) => q
          rw [S_ends, decide_eq_true_eq] at q
          dsimp only

          have e : Txt.slice (S (outL (rs l))) none (some (-((S [10]).length : Int))) = S (if l = [] then [] else decL (rs l)) := by
            show Txt.slice (S (outL (rs l))) none (some (-1)) = _
            rw [S_init, if_neg hnn]; unfold decL cut; rw [if_pos q]
          rw [e]
          subst hQQ
          exact Post.mk F' ⟨_, rfl⟩
        · (rename Fr _ _ _ _ => F')
          rename (Txt.endswith _ _ = false) => q
          rw [S_ends, decide_eq_false_iff_not] at q
          subst hQQ
          refine Post.mk F' ⟨td, ?_⟩
          dsimp only
          rw [if_neg hnn]; unfold decL cut; rw [if_neg q]
        · exfalso
          have := lf_last hok (by assumption) (by assumption : List.isEmpty _ = false)
          cases this
  · (rename Fr _ _ _ _ => F')
    have hz : l = [] := List.eq_nil_of_length_eq_zero (by rw [← S_len]; omega)
    subst hQQ
    refine Post.mk F' ⟨tke, ?_⟩
    dsimp only
    rw [if_pos hz, hz]
end
end
end Mine
end

section
open PySem PySem.W PyProof.Rows PySem.Calls
namespace Mine

/-! ## part EnterC -/
section
open PySem PySem.W PyProof.Rows PySem.Calls
section
variable {prog : Program} {w : World} {A : Around} {E : Value → Shared → Prop} {s : Shared} {K : Frag}
/-- a call of a def some of whose names are captured -/
theorem enterC {Q : Value → Shared → Prop} {name qual : Str} {params : Arguments} {body : List Stmt} {scope : Scope} {dV kV doc pm cdv ct oc : Value} {an od : Option Addr} {osl : Array (Option Value)} {f : Addr} {pos : List Value} {kw : List (Str × Value)} {binds : List (Str × Value)}
    (X : K.In s.heap) (hlim : s.heap.NoLimit)
    (ho : K.lookup f = some ⟨oc, od, .func (fnOf name qual params body scope dV kV doc pm an cdv ct), osl⟩) (hcd : codeIn K cdv qual = true) (hroom : A.depth < recursionLimit)
    (hbind : BindsTo s (fnOf name qual params body scope dV kV doc pm an cdv ct) ⟨pos, kw⟩ binds) (hkind : (binds.all fun y => scope.names.lookup y.1 == some .local || scope.names.lookup y.1 == some .cell) = true)
    (hnd : ((cellsFrom 0 scope.names []).map (·.1)).Nodup)
    (h : ∀ L h₁ tk₁ cells, Fr s.heap L h₁ (bindL (envOfC qual scope L f cdv).kindOf binds fun _ => none) → News s.heap L h₁ cells → CellsAre (bindC (envOfC qual scope L f cdv).kindOf binds fun _ => none) (cellsFrom (L + 1) scope.names []) cells →
      wpAny (model prog w) (A.deeper (envOfC qual scope L f cdv)) (execs body (envOfC qual scope L f cdv))
        (fun fl s' => Q (match fl with | .ret v => v | _ => .none) s')
        (fun _ _ => False)
        { s with heap := h₁, toks := tk₁ })
    (hco : scope.isCoroutine = false) (hgen : scope.isGenerator = false) (hk : scope.kind = .function) : wpAny (model prog w) A (call (.ref f) pos kw) Q E s := by
  refine wpAny_call ?_
  refine codeAny_call_function (fd := fnOf name qual params body scope dV kV doc pm an cdv ct) hroom (X _ _ ho) rfl hco hgen rfl (codeRec_of X hcd) (hbind _ _ _ _ ?_)
  refine wpAny_newFunctionEnv_cells hk (kindsX hkind _) fun env' he s' x => ?_
  subst he
  refine ⟨hlim.keeps x.toInCall.keep, codeAny_func ?_⟩
  obtain ⟨h₁, tk, rfl, _⟩ := x.done
  have hk₁ := x.toInCall.keep
  obtain ⟨cells, NC, Y⟩ := Cl.news (h₀ := s.heap) (Nat.le_refl _) fun n c hm => ⟨x.cell n c (lookup_of_mem_nodup (cellsFrom_names scope.names 0 (s.heap.objs.size + 1) [] [] rfl ▸ hnd) hm), x.above n c hm⟩
  exact wpAny_mono (h s.heap.objs.size h₁ tk cells ⟨x.toInCall.ns, hk₁, Nat.le_refl _⟩ NC Y) (fun fl s' hl => hl) fun _ _ y => y.elim
end
section
variable {M : Model} {A : Around} {E : Value → Shared → Prop} {s : Shared} {env : Env} {L : Addr} {h₀ : Heap} {l : List (Str × Option Value)} {news : List (Addr × Obj)}
theorem stG {x : Str} {v : Value} {Q : Unit → Shared → Prop} (hL : env.locals = L) (F : Fr h₀ L s.heap (mp l)) (N : News h₀ L s.heap news)
    (h : ∀ h', Fr h₀ L h' (mp (up x v l)) → News h₀ L h' news → Q () { s with heap := h', toks := s.toks + 1 })
    (hl : env.kindOf x = some .local) (hp : (env.scope.kind == .class || (env.scope.kind == .module && env.locals != env.globals)) = false) :
    wpAny M A (storeName env x v) Q E s := by
  subst hL
  exact wpAny_storeName_local hl F.ns (fun h' hn hs => h h' (Fr.up (F.set hn hs)) (N.set hs)) hp
end
end

/-! ## part Comp -/
section
open PySem PySem.W PyProof.Rows PySem.Calls

/-- an iterator: n items; P: what the i-th is, t: the tokens' count when it was made -/
structure Itr (prog : Program) (w : World) (A : Around) (I : Addr) (fp : List Addr) (n : Nat) (St : Nat → Heap → Prop) (P : Nat → Value → Nat → Prop) : Prop where
  mem : I ∈ fp
  frame : ∀ i h h', St i h → (∀ b ∈ fp, ∀ o, h.get? b = some o → h'.get? b = some o) → St i h'
  item : ∀ i (s : Shared) (Q : Option Value → Shared → Prop) (E : Value → Shared → Prop), i < n → St i s.heap →
    (∀ v h' tk, P i v s.toks → s.toks ≤ tk → St (i + 1) h' → (∀ b o, b ≠ I → s.heap.get? b = some o → h'.get? b = some o) → Q (some v) { s with heap := h', toks := tk }) → wpAny (model prog w) A (pyNext (.ref I)) Q E s
  done : ∀ (s : Shared) (Q : Option Value → Shared → Prop) (E : Value → Shared → Prop), St n s.heap →
    (∀ h', (∀ b o, b ≠ I → s.heap.get? b = some o → h'.get? b = some o) → Q none { s with heap := h' }) → wpAny (model prog w) A (pyNext (.ref I)) Q E s
  self : ∀ i (s : Shared) (Q : Value → Shared → Prop) (E : Value → Shared → Prop), St i s.heap → Q (.ref I) s → wpAny (model prog w) A (pyIter (.ref I)) Q E s

theorem Itr.list {prog : Program} {w : World} {A : Around} (hh : A.handled = none) (I ax : Addr) (hne : ax ≠ I) (vs : List Value) :
    Itr prog w A I [I, ax] vs.length (fun i h => h.IsListIter I ax i ∧ h.IsList ax vs.toArray) (fun i v _ => vs[i]? = some v) where
  mem := .head _
  frame := fun _ _ _ st hk => ⟨st.1.at fun o e => hk I (by simp) o e, st.2.at fun o e => hk ax (by simp) o e⟩
  item := fun i s Q E hi st hQ => by
    refine wpAny_pyNext_list_item st.1 st.2 (x := vs[i]) (by simp [hi]) fun h' hit' hs' => ?_
    exact hQ _ h' s.toks (by simp [hi]) (Nat.le_refl _) ⟨hit', st.2.extBut hs'.extBut hne⟩ hs'.extBut
  done := fun s Q E st hQ => wpAny_pyNext_list_end hh st.1 st.2 (by simp) fun h' he' => hQ h' he'
  self := fun _ _ _ _ st hQ => wpAny_pyIter_listiter st.1 hQ
theorem Itr.range {prog : Program} {w : World} {A : Around} (hh : A.handled = none) (I : Addr) (a : Int) (n : Nat) :
    Itr prog w A I [I] n (fun i h => IsRangeIter h I (a + (i : Nat)) ((n : Int) - (i : Nat)) 1) (fun i v t => v = .int (a + (i : Nat)) t) where
  mem := .head _
  frame := fun _ _ _ st hk => hk I (by simp) _ st
  item := fun i s Q E hi st hQ => by
    refine wpAny_pyNext_range_item st (by omega) fun h' hit' hs' => ?_
    refine hQ _ h' _ rfl (Nat.le_succ _) ?_ hs'.extBut
    have e1 : a + ((i + 1 : Nat) : Int) = a + (i : Int) + 1 := by omega
    have e2 : (n : Int) - ((i + 1 : Nat) : Int) = (n : Int) - (i : Int) - 1 := by omega
    rw [e1, e2]; exact hit'
  done := fun s Q E st hQ => wpAny_pyNext_range_end hh st (by omega) fun h' he' => hQ h' he'
  self := fun _ _ _ _ st hQ => wpAny_pyIter_rangeiter st hQ

section
variable {prog : Program} {w : World} {A : Around} {R : Result → Shared → Prop} {s : Shared}
theorem comp_loop {elt iter : Expr} {x : Str} {px : Pos} {scope : Scope} {pos : Pos} {I D : Addr} {fp : List Addr} {n : Nat} {St : Nat → Heap → Prop} {P : Nat → Value → Nat → Prop} {cenv : Env} {m : Str → Option Value}
    (W : Itr prog w A I fp n St P) (RR : Nat → Value → Nat → Prop) (mono : ∀ i y a b, RR i y a → a ≤ b → RR i y b)
    (hx : cenv.kindOf x = some .local) (hp : (cenv.scope.kind == .class || (cenv.scope.kind == .module && cenv.locals != cenv.globals)) = false)
    (hDC : D ≠ cenv.locals) (hDf : D ∉ fp) (hCf : cenv.locals ∉ fp) (hst : St 0 s.heap) (hacc : s.heap.PlainList D #[]) (hn : s.heap.Ns cenv.locals m)
    (helt : ∀ i v s₂ m₂ t, i < n → P i v t → s.toks ≤ t → t < s₂.toks → s₂.heap.Ns cenv.locals m₂ → m₂ x = some v → (∀ b o, b ≠ cenv.locals → b ≠ I → b ≠ D → s.heap.get? b = some o → s₂.heap.get? b = some o) →
      wpAny (model prog w) A (eval elt cenv) (fun y s₃ => Keeps s₂ s₃ ∧ RR i y s₃.toks) (fun _ _ => False) s₂)
    (hR : ∀ h' tk m' ys, h'.Ns cenv.locals m' → h'.PlainList D ys → ys.size = n → (∀ i y, ys[i]? = some y → RR i y tk) → s.toks ≤ tk →
      (∀ b o, b ≠ cenv.locals → b ≠ I → b ≠ D → s.heap.get? b = some o → h'.get? b = some o) → R (.ok .next) { s with heap := h', toks := tk })
    (hsz : n ≤ 100000) :
    codeAny (model prog w) A (.compLoop (.ListComp elt [⟨.Name x px, iter, [], 0⟩] scope pos) 0 (.ref I) (.ref D) cenv) R s := by
  have hsl : sizeLine = 16777216 := rfl
  refine codeAny_compLoop_tests
    (fun k s' => ∃ h' tk m' ys i, s' = { s with heap := h', toks := tk } ∧ St i h' ∧ h'.PlainList D ys ∧ h'.Ns cenv.locals m' ∧ Array.size ys = i ∧ (∀ j y, ys[j]? = some y → RR j y tk) ∧ i ≤ n ∧ k = n + 1 - i ∧
      (∀ b o, b ≠ cenv.locals → b ≠ I → b ≠ D → s.heap.get? b = some o → h'.get? b = some o) ∧ s.toks ≤ tk) ?_ (n + 1)
    ⟨s.heap, s.toks, m, #[], 0, rfl, hst, hacc, hn, rfl, by simp, Nat.zero_le _, rfl, fun _ _ _ _ _ e => e, Nat.le_refl _⟩
  rintro k s' ⟨H, tk, m', ys, i, rfl, hst', hacc', hn', hys, hRR, hi, rfl, hk, htk⟩
  have hCI : cenv.locals ≠ I := fun e => hCf (e ▸ W.mem)
  have hDI : D ≠ I := fun e => hDf (e ▸ W.mem)
  by_cases hlt : i < n
  · refine W.item i _ _ _ hlt hst' fun v h₁ tk₁ hP htk₁ hst₁ hk₁ => ?_
    refine wpAny_assign_Name (wpAny_storeName_local hx (hn'.at' fun o e => hk₁ _ o hCI e) (fun h₂ hn₂ hs₂ => ?_) hp)
    have up₂ : ∀ b o, b ≠ cenv.locals → b ≠ I → H.get? b = some o → h₂.get? b = some o := fun b o hbC hbI e => hs₂.extBut b o hbC (hk₁ b o hbI e)
    have hst₂ : St (i + 1) h₂ := W.frame _ _ _ hst₁ fun b hb o e => hs₂.extBut b o (fun h => hCf (h ▸ hb)) e
    refine wpAny_tests_nil ?_
    simp only [if_true]
    have helt' := helt i v { s with heap := h₂, toks := tk₁ + 1 } _ tk hlt hP htk (Nat.lt_succ_of_le htk₁) hn₂ (by simp) (fun b o hbC hbI hbD e => up₂ b o hbC hbI (hk b o hbC hbI hbD e))
    refine wpAny_mono (wpAny_toks helt') (fun y s₄ h₄ => ?_) fun _ _ e => e.2.elim
    obtain ⟨htk₄, ⟨h₄, tk₄, rfl, hk₄⟩, hRy⟩ := h₄
    have htk₅ : tk ≤ tk₄ := Nat.le_trans htk₁ (Nat.le_trans (Nat.le_succ _) htk₄)
    have hacc₄ : h₄.PlainList D ys := hacc'.at fun o e => hk₄ _ o (up₂ D o hDC hDI e)
    refine wpAny_list_append_plain (hsz := by omega) hacc₄ fun h₅ hl₅ hs₅ => ?_
    refine ⟨n + 1 - (i + 1), by omega, h₅, tk₄, _, ys.push y, i + 1, rfl, ?_, hl₅, (hn₂.keeps hk₄).sameBut hs₅ (Ne.symm hDC), by rw [Array.size_push, hys], ?_, hlt, rfl,
      fun b o hbC hbI hbD e => hs₅.extBut b o hbD (hk₄ b o (up₂ b o hbC hbI (hk b o hbC hbI hbD e))), Nat.le_trans htk htk₅⟩
    · exact W.frame _ _ h₅ hst₂ fun b hb o e => hs₅.extBut b o (fun h => hDf (h ▸ hb)) (hk₄ b o e)
    · intro j z hj
      rw [Array.getElem?_push] at hj
      split at hj
      · rename_i e
        have e' : j = i := by rw [← hys]; exact e
        subst e'
        injection hj with hj; subst hj
        exact hRy
      · exact mono _ _ _ _ (hRR j z hj) htk₅
  · have hin : i = n := by omega
    refine W.done _ _ _ (hin ▸ hst') fun h₁ hk₁ => ?_
    exact hR h₁ tk m' ys (hn'.at' fun o e => hk₁ _ o hCI e) (hacc'.at fun o e => hk₁ _ o hDI e) (hys.trans hin) hRR htk fun b o hbC hbI hbD e => hk₁ b o hbI (hk b o hbC hbI hbD e)
end
section
variable {prog : Program} {w : World} {A : Around} {E : Value → Shared → Prop} {env : Env}
theorem comp_block {elt iter : Expr} {x : Str} {px : Pos} {scope : Scope} {cl : List (Str × Addr)} {pos : Pos} {s₂ : Shared} {I : Addr} {fp : List Addr} {n : Nat} {P : Nat → Value → Nat → Prop}
    {St : Nat → Heap → Prop} (W : Itr prog w A I fp n St P) (hsz : n ≤ 100000) (RR : Nat → Value → Nat → Prop) (mono : ∀ i y a b, RR i y a → a ≤ b → RR i y b) {CC : Value → Addr → Result → Shared → Prop}
    (hcell : ∀ y ∈ scope.names, y.2 ≠ .cell) (hkind : scope.kind = .function) (hx : scope.names.lookup x = some .local) (hst : St 0 s₂.heap) (hfp : ∀ b ∈ fp, b < s₂.heap.objs.size)
    (helt : ∀ C i v s₃ m₃ t, s₂.heap.objs.size ≤ C → i < n → P i v t → s₂.toks ≤ t → t < s₃.toks → s₃.heap.Ns C m₃ → m₃ x = some v → (∀ b o, b ≠ I → s₂.heap.get? b = some o → s₃.heap.get? b = some o) →
      wpAny (model prog w) A (eval elt (compEnvC scope cl C env)) (fun y s₄ => Keeps s₃ s₄ ∧ RR i y s₄.toks) (fun _ _ => False) s₃)
    (hCC : ∀ D C h' tk m' ys, s₂.heap.get? D = none → s₂.heap.get? C = none → D ≠ C → h'.Ns C m' → h'.IsList D ys → ys.size = n → (∀ i y, ys[i]? = some y → RR i y tk) → s₂.toks ≤ tk →
      (∀ b o, b ≠ I → s₂.heap.get? b = some o → h'.get? b = some o) → CC (.ref D) C (.ok .next) { s₂ with heap := h', toks := tk }) :
    wpAny (model prog w) A (newList []) (fun acc s₃ => wpAny (model prog w) A (newFunctionEnv scope env.globals cl [] env.qual none .none (some env)) (fun cenv s₄ =>
      codeAny (model prog w) A (.compStart (.ListComp elt [⟨.Name x px, iter, [], 0⟩] scope pos) 0 (.ref I) acc { cenv with scope := relabel scope env }) (CC acc cenv.locals) s₄) E s₃) E s₂ := by
  refine wpAny_newObj_type (wpAny_newFunctionEnv hcell (by intro y hy; simp at hy) (fun h₁ hns₁ hsb₁ => ?_) hkind)
  dsimp only at hns₁ hsb₁ ⊢
  generalize hH2 : s₂.heap.push { cls := .type "list", dict := none, data := .seq ([] : List Value).toArray } = H2 at hns₁ hsb₁ ⊢
  have hC : H2.objs.size = s₂.heap.objs.size + 1 := by rw [← hH2, Heap.size_push]
  have hDC : s₂.heap.objs.size ≠ H2.objs.size := by rw [hC]; exact Nat.ne_of_lt (Nat.lt_succ_self _)
  have hCle : s₂.heap.objs.size ≤ H2.objs.size := by rw [hC]; exact Nat.le_succ _
  have below : ∀ b, b < s₂.heap.objs.size → b ≠ H2.objs.size ∧ b ≠ s₂.heap.objs.size := fun b hb => ⟨by rw [hC]; exact Nat.ne_of_lt (Nat.lt_succ_of_lt hb), Nat.ne_of_lt hb⟩
  have hDf : s₂.heap.objs.size ∉ fp := fun hm => Nat.lt_irrefl _ (hfp _ hm)
  have hCf : H2.objs.size ∉ fp := fun hm => by have := hfp _ hm; rw [hC] at this; exact Nat.lt_irrefl _ (Nat.lt_of_succ_lt this)
  have old : ∀ b o, s₂.heap.get? b = some o → h₁.get? b = some o := fun b o e => hsb₁.extBut b o (below b (Heap.lt_size e)).1 (Heap.get?_push_of_some _ (hH2 ▸ Heap.get?_push_of_some _ e))
  have hacc : h₁.PlainList s₂.heap.objs.size #[] := ⟨_, hsb₁.extBut _ _ hDC (Heap.get?_push_of_some _ (hH2 ▸ Heap.get?_push_size _ rfl))⟩
  have hst₁ : St 0 h₁ := W.frame _ _ _ hst fun b _ o e => old b o e
  have fresh : ∀ a, s₂.heap.objs.size ≤ a → s₂.heap.get? a = none := fun a ha => by
    cases e : s₂.heap.get? a with
    | none => rfl
    | some o' => exact absurd (Heap.lt_size e) (Nat.not_lt.mpr ha)
  have loop : ∀ s₃ : Shared, s₃ = { s₂ with heap := h₁, toks := s₂.toks + ([] : List (Str × Value)).length } →
      codeAny (model prog w) A (.compLoop (.ListComp elt [⟨.Name x px, iter, [], 0⟩] scope pos) 0 (.ref I) (.ref s₂.heap.objs.size) (compEnvC scope cl H2.objs.size env))
        (CC (.ref s₂.heap.objs.size) H2.objs.size) s₃ := by
    rintro s₃ rfl
    refine comp_loop (cenv := compEnvC scope cl H2.objs.size env) W RR mono (lookup_relabel_local hx) (by simp [compEnvC, relabel, hkind]) hDC hDf hCf hst₁ hacc hns₁
      (fun i v s₃ m₃ t hi hv ht ht' hn hm hk => helt _ i v s₃ m₃ t hCle hi hv ht ht' hn hm (fun b o hbI e => hk b o (below b (Heap.lt_size e)).1 hbI (below b (Heap.lt_size e)).2 (old b o e))) (fun h' tk m' ys hn hpl hlen hRR htk hk => ?_) hsz
    exact hCC _ _ h' tk m' ys (fresh _ (Nat.le_refl _)) (fresh _ (by rw [hC]; exact Nat.le_succ _)) hDC hn hpl.isList hlen hRR htk fun b o hbI e =>
      hk b o (below b (Heap.lt_size e)).1 hbI (below b (Heap.lt_size e)).2 (old b o e)
  exact codeAny_compStart_list (loop _ rfl) (W.self 0 _ _ _ hst₁ (loop _ rfl))

/-- what a comprehension without tests finds when its iterator stands -/
noncomputable def CompAt (prog : Program) (w : World) (A : Around) (env : Env) (scope : Scope) (cl : List (Str × Addr)) (x : Str) (elt : Expr) (RR : Nat → Value → Nat → Prop) (it : Value) (s₂ : Shared) (K : Value → Shared → Prop) : Prop :=
  ∃ I fp n St P, it = .ref I ∧ Itr prog w A I fp n St P ∧ n ≤ 100000 ∧ St 0 s₂.heap ∧ (∀ b ∈ fp, b < s₂.heap.objs.size) ∧
    (∀ C i v s₃ m₃ t, s₂.heap.objs.size ≤ C → i < n → P i v t → s₂.toks ≤ t → t < s₃.toks → s₃.heap.Ns C m₃ → m₃ x = some v → (∀ b o, b ≠ I → s₂.heap.get? b = some o → s₃.heap.get? b = some o) →
      wpAny (model prog w) A (eval elt (compEnvC scope cl C env)) (fun y s₄ => Keeps s₃ s₄ ∧ RR i y s₄.toks) (fun _ _ => False) s₃) ∧
    (∀ D h' tk ys, s₂.heap.get? D = none → h'.IsList D ys → ys.size = n → (∀ i y, ys[i]? = some y → RR i y tk) → s₂.toks ≤ tk → (∀ b o, b ≠ I → s₂.heap.get? b = some o → h'.get? b = some o) → K (.ref D) { s₂ with heap := h', toks := tk })

theorem comp_eval {s : Shared} {elt iter : Expr} {x : Str} {px : Pos} {scope : Scope} {cl : List (Str × Addr)} {pos : Pos} {Q : Value → Shared → Prop} (RR : Nat → Value → Nat → Prop) (mono : ∀ i y a b, RR i y a → a ≤ b → RR i y b)
    (hclos : closureFor scope env = pure cl) (hcell : ∀ y ∈ scope.names, y.2 ≠ .cell) (hkind : scope.kind = .function)
    (hnames : ∀ y ∈ scope.names, y.2 = .local → scope.names.lookup y.1 = some .local) (hx : scope.names.lookup x = some .local)
    (h : wpAny (model prog w) A (eval iter env) (fun xv s₁ => wpAny (model prog w) A (pyIter xv) (fun it s₂ => CompAt prog w A env scope cl x elt RR it s₂ Q) E s₁) E s)
    (hs : ∀ x, foldedSetIterable iter env x = pure x := by intro _; rfl) :
    wpAny (model prog w) A (eval (.ListComp elt [⟨.Name x px, iter, [], 0⟩] scope pos) env) Q E s := by
  rw [eval_ListComp]
  refine wpAny_comprehension_free (use := none) rfl hs hclos hkind hnames (wpAny_mono h (fun xv s₁ h₁ => wpAny_mono h₁ (fun it s₂ h₂ => ?_) fun _ _ e => e) fun _ _ e => e)
  obtain ⟨I, fp, n, St, P, rfl, W, hsz, hst, hfp, helt, hQ⟩ := h₂
  refine comp_block (CC := fun acc C => compPost (model prog w) A E none Q acc C) W hsz RR mono hcell hkind hx hst hfp helt ?_
  intro D C h' tk m' ys hD hC hDC hn hl hlen hRR htk hk
  exact ⟨m', hn, fun h'' hs'' => hQ D h'' tk ys hD (hl.extBut hs''.extBut hDC) hlen hRR htk fun b o hbI e => hs''.extBut b o (by rintro rfl; rw [hC] at e; cases e) (hk b o hbI e)⟩
/-- the same, its list stored under a name of the frame -/
noncomputable def CompAtS (prog : Program) (w : World) (A : Around) (env : Env) (scope : Scope) (cl : List (Str × Addr)) (x y : Str) (elt : Expr) (RR : Nat → Value → Nat → Prop) (it : Value) (s₂ : Shared) (K : Shared → Prop) : Prop :=
  ∃ I fp n St P m, it = .ref I ∧ Itr prog w A I fp n St P ∧ n ≤ 100000 ∧ St 0 s₂.heap ∧ (∀ b ∈ fp, b < s₂.heap.objs.size) ∧ env.locals ≠ I ∧ s₂.heap.Ns env.locals m ∧
    (∀ C i v s₃ m₃ t, s₂.heap.objs.size ≤ C → i < n → P i v t → s₂.toks ≤ t → t < s₃.toks → s₃.heap.Ns C m₃ → m₃ x = some v → (∀ b o, b ≠ I → s₂.heap.get? b = some o → s₃.heap.get? b = some o) →
      wpAny (model prog w) A (eval elt (compEnvC scope cl C env)) (fun y s₄ => Keeps s₃ s₄ ∧ RR i y s₄.toks) (fun _ _ => False) s₃) ∧
    (∀ D h' tk ys, s₂.heap.get? D = none → h'.IsList D ys → ys.size = n → (∀ i y, ys[i]? = some y → RR i y tk) → s₂.toks ≤ tk → h'.Ns env.locals (fun z => if z = y then some (.ref D) else m z) →
      (∀ b o, b ≠ env.locals → b ≠ I → s₂.heap.get? b = some o → h'.get? b = some o) → K { s₂ with heap := h', toks := tk })
theorem comp_assign {s : Shared} {elt iter : Expr} {x y : Str} {px py : Pos} {scope : Scope} {cl : List (Str × Addr)} {pos spos : Pos} {Q : Flow → Shared → Prop} (RR : Nat → Value → Nat → Prop) (mono : ∀ i y a b, RR i y a → a ≤ b → RR i y b)
    (hsw : swapsWith (.ListComp elt [⟨.Name x px, iter, [], 0⟩] scope pos) (some (.Name y py)) spos.line env = pure true)
    (hclos : closureFor scope env = pure cl) (hcell : ∀ z ∈ scope.names, z.2 ≠ .cell) (hkind : scope.kind = .function)
    (hnames : ∀ z ∈ scope.names, z.2 = .local → scope.names.lookup z.1 = some .local) (hx : scope.names.lookup x = some .local)
    (hy : env.kindOf y = some .local) (hp : (env.scope.kind == .class || (env.scope.kind == .module && env.locals != env.globals)) = false)
    (h : wpAny (model prog w) A (eval iter env) (fun xv s₁ => wpAny (model prog w) A (pyIter xv) (fun it s₂ => CompAtS prog w A env scope cl x y elt RR it s₂ (Q .next)) E s₁) E s)
    (hs : ∀ x, foldedSetIterable iter env x = pure x := by intro _; rfl) :
    wpAny (model prog w) A (exec (.Assign [.Name y py] (.ListComp elt [⟨.Name x px, iter, [], 0⟩] scope pos) spos) env) Q E s := by
  rw [exec_Assign_Name_used _ _ _ _ hsw]
  refine wpAny_bind (wpAny_standAt (wpAny_bind ?_))
  show wpAny _ A (do let _ ← comprehension (.ListComp elt [⟨.Name x px, iter, [], 0⟩] scope pos) scope env _ (newList []) false (eval iter env) (some (assign (.Name y py) env))) _ _ s
  refine wpAny_bind (wpAny_mono (wpAny_comprehension_free (use := some (assign (.Name y py) env)) (Q := fun _ s' => Q .next s') rfl hs hclos hkind hnames
    (wpAny_mono h (fun xv s₁ h₁ => wpAny_mono h₁ (fun it s₂ h₂ => ?_) fun _ _ e => e) fun _ _ e => e)) (fun _ s' hq => wpAny_pure (wpAny_pure hq)) fun _ _ e => e)
  obtain ⟨I, fp, n, St, P, m, rfl, W, hsz, hst, hfp, hLI, hn, helt, hQ⟩ := h₂
  refine comp_block (CC := fun acc C => compPost (model prog w) A E (some (assign (.Name y py) env)) (fun _ s' => Q .next s') acc C) W hsz RR mono hcell hkind hx hst hfp helt ?_
  intro D C h' tk m' ys hD hC hDC hnC hl hlen hRR htk hk
  have hLC : env.locals ≠ C := by rintro rfl; obtain ⟨o, _, _, ho, _⟩ := hn; rw [hC] at ho; cases ho
  have hLD : env.locals ≠ D := by rintro rfl; obtain ⟨o, _, _, ho, _⟩ := hn; rw [hD] at ho; cases ho
  show wpAny _ A (assign (.Name y py) env (.ref D)) _ _ _
  refine wpAny_assign_Name (wpAny_storeName_local hy (hn.at' fun o e => hk _ o hLI e) (fun h₂ hn₂ hs₂ => ?_) hp)
  refine ⟨m', hnC.sameBut hs₂ (Ne.symm hLC), fun h₃ hs₃ => ?_⟩
  refine hQ D h₃ _ ys hD ((hl.extBut hs₂.extBut (Ne.symm hLD)).extBut hs₃.extBut hDC) hlen (fun i z hz => mono _ _ _ _ (hRR i z hz) (Nat.le_succ _)) (Nat.le_succ_of_le htk) (hn₂.sameBut hs₃ hLC) fun b o hbL hbI e =>
    hs₃.extBut b o (by rintro rfl; rw [hC] at e; cases e) (hs₂.extBut b o hbL (hk b o hbI e))
end
end

/-! ## part Comp2 -/
section
open PySem PySem.W PyProof.Rows PySem.Calls
section
variable {M : Model} {A : Around} {E : Value → Shared → Prop} {s : Shared} {scope : Scope} {cl : List (Str × Addr)} {C : Addr} {env : Env} {m mg mb : Str → Option Value} {x : Str} {pos : Pos} {v : Value} {Q : Value → Shared → Prop} {K : Frag} {p : Program} {loose : List Str} {c : Addr} {o : Obj}
theorem nmL (hn : s.heap.Ns C m) (hm : m x = some v) (h : Q v s)
    (hk : scope.kind = .function := by rfl) (hx : (compEnvC scope cl C env).kindOf x = some .local := by rfl) (hd : (x == ("__debug__" : Str)) = false := by decide) :
    wpAny M A (eval (.Name x pos) (compEnvC scope cl C env)) Q E s := wpAny_Name (wpAny_loadName_local (env := compEnvC scope cl C env) hk hx hn hm h) hd
theorem nmK (X : K.In s.heap) (T : TopRead p loose mg mb s.heap) (e : nsIn K mainGlobals x = some (some v)) (h : Q v s)
    (hg : env.globals = mainGlobals := by rfl) (hk : scope.kind = .function := by rfl) (hx : (compEnvC scope cl C env).kindOf x = some .globalImplicit := by rfl) (hd : (x == ("__debug__" : Str)) = false := by decide) :
    wpAny M A (eval (.Name x pos) (compEnvC scope cl C env)) Q E s :=
  Name_function_global (env := compEnvC scope cl C env) hk hx (loadGlobal_global (env := compEnvC scope cl C env) (by show s.heap.Ns env.globals _; rw [hg]; exact T.g) (mg_of X T.g e) h) hd
theorem nmB (X : K.In s.heap) (T : TopRead p loose mg mb s.heap) (e : nsIn K mainGlobals x = some none) (hv : bootBuiltins x = some v) (hn : x ≠ "__name__") (h : Q v s)
    (hg : env.globals = mainGlobals := by rfl) (hb : env.builtins = builtinsNs := by rfl) (hk : scope.kind = .function := by rfl) (hx : (compEnvC scope cl C env).kindOf x = some .globalImplicit := by rfl) (hd : (x == ("__debug__" : Str)) = false := by decide) :
    wpAny M A (eval (.Name x pos) (compEnvC scope cl C env)) Q E s :=
  Name_function_global (env := compEnvC scope cl C env) hk hx (loadGlobal_builtin (env := compEnvC scope cl C env) (by show s.heap.Ns env.globals _; rw [hg]; exact T.g) (mg_none_of X T.g e) (by show s.heap.Ns env.builtins _; rw [hb]; exact T.b) ((T.builtins x hn).trans hv) h) hd
theorem nmC (hc : cl.lookup x = some c) (ho : s.heap.get? c = some o) (hd : o.data = .cell (some v)) (h : Q v s)
    (hk : scope.kind = .function := by rfl) (hx : (compEnvC scope cl C env).kindOf x = some .cell := by rfl) (hb : (x == ("__debug__" : Str)) = false := by decide) :
    wpAny M A (eval (.Name x pos) (compEnvC scope cl C env)) Q E s := wpAny_Name (wpAny_loadName_cell (env := compEnvC scope cl C env) hk hx hc ⟨o, ho, hd⟩ h) hb
end
theorem Ok.useK {w : World} {A : Around} {t : Sem Value} {P : Value → Shared → Prop} {s : Shared} {Q : Value → Shared → Prop} {E : Value → Shared → Prop}
    (C : Ok w A t P s) (h : ∀ v h' tk, (∀ b o, s.heap.get? b = some o → h'.get? b = some o) → P v { s with heap := h', toks := tk } → Q v { s with heap := h', toks := tk }) :
    wpAny (model PR w) A t Q E s := by
  refine wpAny_mono C (fun v s' hv => ?_) fun _ _ x => x.elim
  obtain ⟨⟨h', tk, rfl, k⟩, hP⟩ := hv
  exact h v h' tk k hP
noncomputable def AllRd (n : Nat) (w : World) (A : Around) (h : Heap) : Prop := ∀ env, Rd n w (A.deeper env) h
theorem AllRd.at {n : Nat} {w : World} {A : Around} {h : Heap} {env : Env} (R : AllRd n w A h) : Rd n w (A.deeper env) h := R env
theorem AllRd.of {n : Nat} {w : World} {A : Around} {h h' : Heap} {L : Addr} {m : Str → Option Value} (R : Rd (n + 1) w A h) (F : Fr h L h' m) : AllRd n w A h' := fun env => Rd.keeps (Rd.deeper R env) F.keep
theorem AllRd.keeps {n : Nat} {w : World} {A : Around} {h h' : Heap} (R : AllRd n w A h) (k : ∀ b o, h.get? b = some o → h'.get? b = some o) : AllRd n w A h' := fun env => (R env).keeps k
noncomputable def CPost {α : Type} (s : Shared) (P : α → Nat → Prop) (v : α) (s' : Shared) : Prop := Keeps s s' ∧ P v s'.toks
theorem CPost.mk {α : Type} {s : Shared} {P : α → Nat → Prop} {v : α} {h' : Heap} {tk : Nat} (k : ∀ b o, s.heap.get? b = some o → h'.get? b = some o) (h : P v tk) : CPost s P v { s with heap := h', toks := tk } := ⟨⟨h', tk, rfl, k⟩, h⟩
theorem quiet {w : World} {A : Around} {env : Env} {scope : Scope} {cl : List (Str × Addr)} {x : Str} {ct elt : Expr} {wr : List Addr} {P : Nat → Value → Prop} {p : Value → Bool} {F : Value → Value → Prop} {s₂ : Shared}
    (tests : ∀ C i v s₃ m₃, P i v → s₃.heap.Ns C m₃ → m₃ x = some v → (∀ b o, b ∉ wr → s₂.heap.get? b = some o → s₃.heap.get? b = some o) →
      wpAny (model PR w) A (isTrue ct (compEnvC scope cl C env) (eval ct (compEnvC scope cl C env))) (CPost s₃ (fun ok _ => ok = p v)) (fun _ _ => False) s₃)
    (elts : ∀ C i v s₃ m₃, P i v → p v = true → s₃.heap.Ns C m₃ → m₃ x = some v → (∀ b o, b ∉ wr → s₂.heap.get? b = some o → s₃.heap.get? b = some o) →
      wpAny (model PR w) A (eval elt (compEnvC scope cl C env)) (CPost s₃ (fun y _ => F v y)) (fun _ _ => False) s₃) : QuietOnC PR w A env scope cl x [ct] elt wr P p F s₂ where
  tests := fun C i v s₃ m₃ E' _ hP hn hm hk _ => wpAny_tests_one (wpAny_mono (tests C i v s₃ m₃ hP hn hm hk) (fun ok s₄ h => ⟨h.2, h.1⟩) fun _ _ e => e.elim)
  elt := fun C i v s₃ m₃ E' _ hP hp hn hm hk _ => wpAny_mono (elts C i v s₃ m₃ hP hp hn hm hk) (fun ok s₄ h => ⟨h.2, h.1⟩) fun _ _ e => e.elim
theorem paired_of {vs : List Value} {P : Nat → Value → Prop} {f : Nat → Nat} {n : Nat} (hlen : vs.length = n) (hP : ∀ j v, vs[j]? = some v → P j v) (hf : ∀ j v, P j v → ∃ t, v = .int ((f j : Nat) : Int) t) : Paired (fun v (c : Nat) => ∃ t, v = .int (c : Int) t) vs ((List.range n).map f) := by
  subst hlen
  induction vs generalizing P f with
  | nil => exact .nil
  | cons v r ih =>
    rw [List.length_cons, List.range_succ_eq_map, List.map_cons, List.map_map]
    refine .cons (hf 0 v (hP 0 v rfl)) (ih (P := fun j v => P (j + 1) v) (f := f ∘ Nat.succ) (fun j u h => hP (j + 1) u h) fun j u h => hf (j + 1) u h)
theorem strs_of {p : Value → Bool} {q : Nat → Bool} {F : Value → Value → Prop} (hp : ∀ (c : Nat) t, p (.int (c : Int) t) = q c) (hF : ∀ (c : Nat) t y, F (.int (c : Int) t) y → ∃ k, y = .str (S [c]) k) {vs : List Value} {l : List Nat} (h : Paired (fun v (c : Nat) => ∃ t, v = .int (c : Int) t) vs l) :
    ∀ {ys : List Value}, Paired F (vs.filter p) ys → StrsAre ys ((l.filter q).map fun c => S [c]) := by
  induction h with
  | nil => intro ys h; cases h; exact .nil
  | @cons v c vs l hv ht ih =>
    intro ys h
    obtain ⟨t, rfl⟩ := hv
    cases hq : q c with
    | false =>
      rw [List.filter_cons_of_neg (by rw [hp, hq]; decide)] at h
      rw [List.filter_cons_of_neg (by rw [hq]; decide)]
      exact ih h
    | true =>
      rw [List.filter_cons_of_pos (by rw [hp, hq])] at h
      rw [List.filter_cons_of_pos hq, List.map_cons]
      cases h with
      | cons h1 h2 =>
        obtain ⟨k, rfl⟩ := hF c t _ h1
        exact .cons _ _ (ih h2)
theorem walks_lt {prog : Program} {w : World} {A : Around} {I : Addr} {fp wr : List Addr} {n : Nat} {P : Nat → Value → Prop} {St : Nat → Heap → Prop} (W : Walks prog w A I fp wr n P St) : Walks prog w A I fp wr n (fun i v => i < n ∧ P i v) St where
  sub := W.sub
  frame := W.frame
  item := fun i s Q E hi st hQ => W.item i s Q E hi st fun v h' tk hP => hQ v h' tk ⟨hi, hP⟩
  done := W.done
  self := W.self
theorem c_containsE {w : World} {A : Around} {s : Shared} {a : List Nat} {c : Nat} {x y : Str} {t u : Tok} (R : Rd 0 w A s.heap) (hx : x = S a) (hy : y = S [c]) (ha : a.length ≤ 100) : Ok w A (call (.ref 71) [.str x t, .str y u]) (fun v _ => v = .bool (decide (c ∈ a))) s := by
  subst hx; subst hy
  exact c_contains R ha
theorem kept_push {H h₃ : Heap} {ob : Obj} (hk : ∀ b o, b ∉ [H.objs.size] → (H.push ob).get? b = some o → h₃.get? b = some o) : ∀ b o, H.get? b = some o → h₃.get? b = some o :=
  fun b o e => hk b o (fun hb => by rw [List.mem_singleton.mp hb] at e; exact absurd (Heap.lt_size e) (Nat.lt_irrefl _)) (Heap.get?_push_of_some _ e)
theorem kept_push' {H h₃ : Heap} {ob : Obj} (hk : ∀ b o, b ≠ H.objs.size → (H.push ob).get? b = some o → h₃.get? b = some o) : ∀ b o, H.get? b = some o → h₃.get? b = some o :=
  fun b o e => hk b o (fun hb => by rw [hb] at e; exact absurd (Heap.lt_size e) (Nat.lt_irrefl _)) (Heap.get?_push_of_some _ e)
theorem after_comp {h₀ H h' : Heap} {L D : Addr} {ob : Obj} {l : List (Str × Option Value)} {news : List (Addr × Obj)} {y : Str} {v : Value} {ys : List Value} (F : Fr h₀ L H (mp l)) (N : News h₀ L H news)
    (hns : h'.Ns L (fun z => if z = y then some v else mp l z)) (hk : ∀ b o, b ≠ L → b ∉ [H.objs.size] → (H.push ob).get? b = some o → h'.get? b = some o) (hD : (H.push ob).get? D = none) (hl : h'.IsList D ys.toArray) :
    Fr h₀ L h' (mp (up y v l)) ∧ News h₀ L h' news ∧ D ≠ L ∧ h₀.get? D = none ∧ (∀ b o, b ≠ L → H.get? b = some o → h'.get? b = some o) ∧ H.get? D = none := by
  have hkk : ∀ b o, b ≠ L → H.get? b = some o → h'.get? b = some o := fun b o hb e => hk b o hb (fun q => by rw [List.mem_singleton.mp q] at e; exact absurd (Heap.lt_size e) (Nat.lt_irrefl _)) (Heap.get?_push_of_some _ e)
  have hHD : H.get? D = none := by
    cases q : H.get? D with
    | none => rfl
    | some o => rw [Heap.get?_push_of_some _ q] at hD; cases hD
  refine ⟨Fr.up ⟨hns, fun b o e => hkk b o (Nat.ne_of_lt (Nat.lt_of_lt_of_le (Heap.lt_size e) F.above)) (F.keep b o e), F.above⟩, fun p hp => ⟨hkk _ _ (N p hp).2.1 (N p hp).1, (N p hp).2⟩, ?_, ?_, hkk, hHD⟩
  · rintro rfl
    obtain ⟨o, _, _, ho, _⟩ := F.ns
    rw [hHD] at ho; cases ho
  · cases q : h₀.get? D with
    | none => rfl
    | some o => rw [F.keep _ _ q] at hHD; cases hHD
theorem news_list {h₀ h : Heap} {L D : Addr} {vs : List Value} {news : List (Addr × Obj)} (N : News h₀ L h news) (hl : h.IsList D vs.toArray) (h1 : D ≠ L) (h2 : h₀.get? D = none) : ∃ oD, (oD.cls = .type "list" ∧ ∃ n, oD.data = .seq vs.toArray n) ∧ News h₀ L h ((D, oD) :: news) := by
  obtain ⟨o, ho, hc⟩ := hl
  refine ⟨o, hc, fun p hp => ?_⟩
  rcases List.mem_cons.mp hp with rfl | hp
  · exact ⟨ho, h1, h2⟩
  · exact N p hp
end
local macro_rules | `(tactic| walk_at "pyIter ref") => `(tactic| (refine stop_ ?_))
local macro_rules | `(tactic| walk_at "TurnPost") => `(tactic| (refine stop_ ?_))
local macro_rules | `(tactic| walk_at "call ref") => `(tactic| (refine stop_ ?_))
local macro_rules | `(tactic| walk_at "exec For Name Call cons nil") => `(tactic| (k_dflt (refine wpAny_For ?_)))
local macro_rules | `(tactic| walk_at "call builtin:chr") => `(tactic| (refine chr_of_range (by omega) (by omega) ?_))
local macro_rules | `(tactic| walk_at "CPost") => `(tactic| (refine stop_ ?_))
local macro_rules | `(tactic| walk_at "pyIter str") => `(tactic| (refine stop_ ?_))
local macro_rules | `(tactic| walk_at "exec Assign cons ListComp") => `(tactic| (refine stop_ ?_))
local macro_rules | `(tactic| walk_at "exec Assign cons DictComp") => `(tactic| (refine stop_ ?_))
local macro_rules | `(tactic| walk_at "eval Name") => `(tactic| ((with_reducible show wpAny _ _ (eval (Expr.Name _ _) (compEnvC _ _ _ _)) _ _ _); k_dflt (first
  | refine nmL ‹_› ‹_› ?_
  | refine nmC rfl ‹_› ‹_› ?_
  | refine nmK ‹_› ‹_› (by k_is) ?_
  | refine nmB ‹_› ‹_› (by k_is) (by boot_fast) (by decide) ?_)))
local macro_rules | `(tactic| walk_at "storeName") => `(tactic| (k_dflt (refine stG rfl ‹_› ‹_› ?_ rfl rfl); intro h' F' N'; (try k_sweep)))
local macro_rules | `(tactic| walk_at "CutP") => `(tactic| (refine stop_ ?_))

/-! ## part Alp -/
section
open PySem PySem.W PyProof.Rows PySem.Calls
noncomputable def figs : List Nat := [48, 49, 50, 51, 52, 53, 54, 55, 56, 57, 65, 66, 67, 68, 69, 70, 97, 98, 99, 100, 101, 102]
theorem figs_S : Str.ofString "0123456789ABCDEFabcdef" = S figs := by decide +kernel
theorem rdX {n : Nat} {w : World} {A : Around} {h h' : Heap} {L : Addr} {m : Str → Option Value} {env : Env} (R : Rd (n + 1) w A h) (F : Fr h L h' m) : Rd n w (A.deeper env) h' := Rd.keeps (Rd.deeper R env) F.keep
theorem c_getI {w : World} {A : Around} {s : Shared} {a : List Nat} {x : Str} {i : Int} {t u : Tok} (R : Rd 0 w A s.heap) (hx : x = S a) (ha : a.length ≤ 100) (hi : 0 ≤ i ∧ i < (a.length : Int)) : Ok w A (call (.ref 85) [.str x t, .int i u]) (fun v _ => ∃ k, v = .str (S [a.getD i.toNat 0]) k) s := by
  subst hx
  obtain ⟨j, rfl⟩ := Int.eq_ofNat_of_zero_le hi.1
  have hj : j < a.length := by omega
  exact c_getS R ha (by rw [Int.toNat_natCast]; simp [hj])
theorem fmod_in {x m : Int} (h : 0 < m) : 0 ≤ Int.fmod x m ∧ Int.fmod x m < m := ⟨Int.fmod_nonneg_of_pos _ h, Int.fmod_lt_of_pos _ h⟩
noncomputable def others : List Nat := (List.range 94).map (33 + ·) |>.filter fun c => !(61 :: figs).contains c
theorem others_eq : List.filter (fun c => !List.contains (61 :: figs) c) (List.map (fun j => 33 + j) (List.range 94)) = others := rfl
theorem others_len : others.length = 71 := by decide +kernel
theorem c_getStrs {w : World} {A : Around} {s : Shared} {a : Addr} {vs : List Value} {cs : List Nat} {i : Int} {u : Tok} (R : Rd 0 w A s.heap) (hl : s.heap.IsList a vs.toArray) (hs : StrsAre vs (cs.map fun c => S [c])) (hlen : cs.length ≤ 1000) (hi : 0 ≤ i ∧ i < (cs.length : Int)) :
    Ok w A (call (.ref 85) [.ref a, .int i u]) (fun v _ => ∃ k, v = .str (S [cs.getD i.toNat 0]) k) s := by
  obtain ⟨j, rfl⟩ := Int.eq_ofNat_of_zero_le hi.1
  have hj : j < cs.length := by omega
  obtain ⟨t, ht⟩ := hs.at (j := j) (y := S [cs[j]]) (by simp [hj])
  have hlv := hs.len_eq
  rw [List.length_map] at hlv
  have := c_getL (u := u) R hl (by omega) ht
  refine wpAny_mono this (fun v s' h => ⟨h.1, t, ?_⟩) fun _ _ e => e
  rw [h.2]
  simp [hj]
/-- the signs that the three draws give -/
noncomputable def alph (a b c : Nat) : List Nat :=
  [61, figs.getD (a % 22) 0] ++
    if c % 2 = 0 then [] else
    if b % 4 = 0 then [if b / 4 % 2 = 0 then 32 else 9] else
    if b % 4 = 1 then [figs.getD ((a + 1 + b / 4 % 21) % 22) 0] else [others.getD (b / 4 % 71) 0]
theorem fm {x : Nat} {m : Nat} (hm : 0 < m) : Int.fmod (x : Int) (m : Int) = ((x % m : Nat) : Int) := by
  rw [Int.fmod_eq_emod_of_nonneg _ (by omega)]; exact (Int.natCast_emod x m).symm
theorem fd {x : Nat} {m : Nat} : Int.fdiv (x : Int) (m : Int) = ((x / m : Nat) : Int) := by
  rw [Int.fdiv_eq_ediv_of_nonneg _ (by omega)]; exact (Int.natCast_ediv x m).symm
theorem eq1_S : Str.ofString "=" = S [61] := by decide +kernel
theorem sp_S : Str.ofString " " = S [32] := by decide +kernel
theorem tab_S : Str.ofString "	" = S [9] := by decide +kernel
theorem two_are {a b c : Nat} {t u : Tok} (hc : Int.fmod (List.getD [(a : Int), (b : Int), (c : Int)] (Int.toNat 2) 0) 2 = 0) :
    StrsAre [.str (Str.ofString "=") t, .str (S [List.getD figs (Int.toNat (Int.fmod (List.getD [(a : Int), (b : Int), (c : Int)] (Int.toNat 0) 0) 22)) 0]) u] ((alph a b c).map fun c => S [c]) := by
  have hc' : Int.fmod (c : Int) (2 : Nat) = 0 := hc
  rw [fm (by decide)] at hc'
  have e : Int.toNat (Int.fmod (List.getD [(a : Int), (b : Int), (c : Int)] (Int.toNat 0) 0) 22) = a % 22 := by
    show Int.toNat (Int.fmod (a : Int) (22 : Nat)) = _
    rw [fm (by decide), Int.toNat_natCast]
  rw [e, eq1_S]
  unfold alph
  rw [if_pos (by omega)]
  exact .cons _ _ (.cons _ _ .nil)
theorem three_are {a b c d : Nat} {x : Str} {t u v : Tok} (hx : x = S [d]) (hc : Int.fmod (List.getD [(a : Int), (b : Int), (c : Int)] (Int.toNat 2) 0) 2 ≠ 0)
    (hd : d = (if b % 4 = 0 then (if b / 4 % 2 = 0 then 32 else 9) else if b % 4 = 1 then figs.getD ((a + 1 + b / 4 % 21) % 22) 0 else others.getD (b / 4 % 71) 0)) :
    StrsAre [.str (Str.ofString "=") t, .str (S [List.getD figs (Int.toNat (Int.fmod (List.getD [(a : Int), (b : Int), (c : Int)] (Int.toNat 0) 0) 22)) 0]) u, .str x v] ((alph a b c).map fun c => S [c]) := by
  have hc' : Int.fmod (c : Int) (2 : Nat) ≠ 0 := hc
  rw [fm (by decide)] at hc'
  have e : Int.toNat (Int.fmod (List.getD [(a : Int), (b : Int), (c : Int)] (Int.toNat 0) 0) 22) = a % 22 := by
    show Int.toNat (Int.fmod (a : Int) (22 : Nat)) = _
    rw [fm (by decide), Int.toNat_natCast]
  have ha : alph a b c = [61, figs.getD (a % 22) 0, d] := by
    unfold alph
    rw [if_neg (by omega), hd]
    split
    · rfl
    · split <;> rfl
  rw [e, eq1_S, ha, hx]
  exact .cons _ _ (.cons _ _ (.cons _ _ .nil))
theorem len_L {prog : Program} {w : World} {A : Around} {E : Value → Shared → Prop} {s : Shared} {l : Addr} {vs : List Value} {n : Nat} {Q : Value → Shared → Prop} (hl : s.heap.IsList l vs.toArray) (hn : vs.length = n) (hfit : n ≤ 100000)
    (h : Q (.int (n : Int) (s.toks + 1)) { s with toks := s.toks + 1 + 1 }) : wpAny (model prog w) A (call (.builtin "len") [.ref l]) Q E s := by
  have e : vs.toArray.size = n := by rw [List.size_toArray]; exact hn
  refine len_list hl (by omega) ?_
  rw [e]; exact h
local macro_rules | `(tactic| walk_at "call builtin:len") => `(tactic| (k_dflt (refine len_L ‹_› ‹_› (by decide) ?_)))
theorem eqfigs_S : Str.ofString "=" ++ Str.ofString "0123456789ABCDEFabcdef" = S (61 :: figs) := by decide +kernel
section
variable {w : World} {A : Around} {s : Shared} {E : Value → Shared → Prop}
set_option maxRecDepth 100000
set_option maxHeartbeats 8000000
theorem c_alph {d : Addr} {a b c : Nat} {t u v : Tok} (R : Rd 1 w A s.heap) (hl : s.heap.IsList d [Value.int (a : Int) t, Value.int (b : Int) u, Value.int (c : Int) v].toArray) (ha : a < 1000000) (hb : b < 1000000) (hc : c < 1000000) :
    Ok w A (call (.ref 98) [.ref d]) (fun v s' => ∃ D vs, v = .ref D ∧ s.heap.get? D = none ∧ s'.heap.IsList D (List.toArray vs) ∧ StrsAre vs ((alph a b c).map fun c => S [c])) s := by
  have RR := R
  obtain ⟨X, ⟨p, loose, mg, mb, T⟩, hA, hu, hh⟩ := R
  unfold Ok
  (
    refine' enterC (by assumption) (TopRead.nolimit (by assumption)) ?k6 ?k7 ?k8 ?k9 ?kB ?kD ?_ ?c2 ?c3 ?c4;
    (case k6 => k_is); (case k7 => k_is); (case k8 => ((have : recursionLimit = 1000 := rfl); omega)); (case k9 => first | exact BindsTo.of_eq rfl | exact binds_K (by k_in) rfl (by k_is) rfl rfl rfl); (case kB => exact rfl); (case kD => decide +kernel); (case c2 => exact rfl); (case c3 => exact rfl); (case c4 => exact rfl))
  clear hA hu
  intro L h₁ tk₀ cells F N Y
  k_cells Y
  replace F : Fr s.heap L h₁ (mp [(Str.ofString "draws", some (.ref d))]) := by
    refine (?_ : (bindL _ _ _) = mp _) ▸ F
    funext y
    rfl
  refine hideQ fun QQ hQQ => ?_
  have hl1 := fr_list F hl
  try k_fold
  k_steps
  unfold Stop
  (rename Fr _ _ _ _ => F'); (rename News _ _ _ _ => N')
  refine Ok.useX (c_getI (rdX RR F') figs_S (by decide) (fmod_in (by decide))) F' N' ?_
  intro k h' tk' hk' F'' N''
  clear F' N'
  try dsimp only
  k_steps
  · dsimp only
    (rename Fr _ _ _ _ => F'); (rename News _ _ _ _ => N')
    subst hQQ
    exact Post.mk F' ⟨_, _, rfl, (N' _ (.head _)).2.2, News.isList N' (.head _), two_are (by assumption)⟩
  · (rename Fr _ _ _ _ => F'); (rename News _ _ _ _ => N')
    have q1 : Int.fmod (b : Int) (4 : Nat) = 0 := by assumption
    have q2 : Int.fmod (Int.fdiv (b : Int) (4 : Nat)) (2 : Nat) = 0 := by assumption
    rw [fm (by decide)] at q1
    rw [fd, fm (by decide)] at q2
    subst hQQ
    exact Post.mk F' ⟨_, _, rfl, (N' _ (.head _)).2.2, News.isList N' (.head _), three_are (d := 32) sp_S (by assumption) (by rw [if_pos (by omega), if_pos (by omega)])⟩
  · (rename Fr _ _ _ _ => F'); (rename News _ _ _ _ => N')
    have q1 : Int.fmod (b : Int) (4 : Nat) = 0 := by assumption
    have q2 : Int.fmod (Int.fdiv (b : Int) (4 : Nat)) (2 : Nat) = 1 := by assumption
    rw [fm (by decide)] at q1
    rw [fd, fm (by decide)] at q2
    subst hQQ
    exact Post.mk F' ⟨_, _, rfl, (N' _ (.head _)).2.2, News.isList N' (.head _), three_are (d := 9) tab_S (by assumption) (by rw [if_pos (by omega), if_neg (by omega)])⟩
  · (rename Fr _ _ _ _ => F'); (rename News _ _ _ _ => N')
    have q1 : Int.fmod (b : Int) (4 : Nat) ≠ 0 := by assumption
    have q2 : Int.fmod (b : Int) (4 : Nat) = 1 := by assumption
    rw [fm (by decide)] at q1 q2
    have q3 : Int.fmod ((a : Int) + 1 + Int.fmod (Int.fdiv (b : Int) (4 : Nat)) (21 : Nat)) (22 : Nat) = (((a + 1 + b / 4 % 21) % 22 : Nat) : Int) := by
      rw [fd, fm (x := b / 4) (m := 21) (by decide)]
      have := fm (x := a + 1 + b / 4 % 21) (m := 22) (by decide)
      rw [← this]; congr 1
    have q4 : (a + 1 + b / 4 % 21) % 22 < figs.length := Nat.mod_lt _ (by decide)
    subst hQQ
    exact Post.mk F' ⟨_, _, rfl, (N' _ (.head _)).2.2, News.isList N' (.head _), three_are (d := figs.getD ((a + 1 + b / 4 % 21) % 22) 0) (by
      show Txt.item (Str.ofString "0123456789ABCDEFabcdef") (Int.fmod ((a : Int) + 1 + Int.fmod (Int.fdiv (b : Int) (4 : Nat)) (21 : Nat)) (22 : Nat)) = _
      rw [q3, figs_S]
      exact S_item _ _ _ (by simp [q4])) (by assumption) (by rw [if_neg (by omega), if_pos (by omega)])⟩
  · (rename Fr _ _ _ _ => F'); (rename News _ _ _ _ => N')
    refine wpAny_Assign_ListComp_free (fun v => match v with | .int z _ => !(61 :: figs).contains z.toNat | _ => false) (fun v y => ∃ z t k, v = .int z t ∧ y = .str (S [z.toNat]) k) rfl rfl (by decide) rfl (by decide) rfl rfl rfl ?_
    k_steps
    (rename Fr _ _ _ _ => F'); (rename News _ _ _ _ => N'); (rename IsRange _ _ _ _ _ _ _ _ => hR)
    refine wpAny_pyIter_range hR (by decide +kernel) ?_
    rw [show Builtin.Range.rangeSize 33 127 1 = 94 from by decide +kernel]
    have hRd := AllRd.of RR F'
    have hcell := (N' _ (.tail _ (.head _))).1
    refine ⟨_, _, _, 94, _, _, _, rfl, walks_lt (Walks.range (A := A.deeper _) hh _ 33 1 94), by decide, ?_, ?_, ?_, (F'.push _).ns, quiet ?_ ?_, ?_⟩
    · exact Heap.get?_push_size _ rfl
    · intro b hb; rw [List.mem_singleton.mp hb, Heap.size_push]; exact Nat.lt_succ_self _
    · intro hm; exact absurd F'.ns.lt ((List.mem_singleton.mp hm) ▸ Nat.lt_irrefl _)
    · rintro C i v s₃ m₃ ⟨hi94, ti, rfl⟩ hn hm hk
      have kk := kept_push hk
      have hRd3 := hRd.keeps kk
      obtain ⟨X3, ⟨p3, loose3, mg3, mb3, T3⟩, _, _, _⟩ := hRd3 default
      have hcell3 := kk _ _ hcell
      clear hk
      k_steps
      unfold Stop
      refine Ok.useK (c_containsE (AllRd.at hRd3) eqfigs_S rfl (by decide)) ?_
      rintro _ h' tk' hk' rfl
      k_steps
      exact CPost.mk (by assumption) (by simp only [List.contains_eq_mem]; cases decide ((33 + (i : Int) * 1).toNat ∈ 61 :: figs) <;> rfl)
    · rintro C i v s₃ m₃ ⟨hi94, ti, rfl⟩ hp hn hm hk
      have kk := kept_push hk
      have hRd3 := hRd.keeps kk
      obtain ⟨X3, ⟨p3, loose3, mg3, mb3, T3⟩, _, _, _⟩ := hRd3 default
      clear hk
      k_steps
      exact CPost.mk (fun _ _ e => e) ⟨_, _, _, rfl, rfl⟩
    · rintro D h' tk ys vs hD hl hpl hlen hP hF hns hk
      rw [show ys = ys.toList.toArray from by simp] at hl
      obtain ⟨F₂, N₂, hDL, hD0, hkk, _⟩ := after_comp F' N' hns hk hD hl
      have hst := strs_of (p := fun v => match v with | .int z _ => !(61 :: figs).contains z.toNat | _ => false) (q := fun c => !(61 :: figs).contains c) (fun c t => rfl) (fun c t y h => by obtain ⟨z, t', k, e, rfl⟩ := h; cases e; exact ⟨k, rfl⟩) (paired_of (f := fun j => 33 + j) hlen hP (fun j v h => by obtain ⟨_, t, rfl⟩ := h; exact ⟨t, by congr 1; omega⟩)) hF
      rw [others_eq] at hst
      generalize ys.toList = zs at hl hst
      have hzl : zs.length = 71 := by rw [hst.len_eq, List.length_map, others_len]
      have hol := others_len
      clear hF hpl hP hlen hns hk
      k_steps
      unfold Stop
      clear F' N'
      (rename Fr _ _ _ _ => F'); (rename News _ _ _ _ => N')
      refine Ok.useX (c_getStrs (rdX RR F') ‹_› ‹_› (by omega) (by rw [others_len]; exact fmod_in (by decide))) F' N' ?_
      intro k h' tk' hk' F'' N''
      clear F' N'
      try dsimp only
      k_steps
      (rename Fr _ _ _ _ => F'); (rename News _ _ _ _ => N')
      have q1 : Int.fmod (b : Int) (4 : Nat) ≠ 0 := by assumption
      have q2 : Int.fmod (b : Int) (4 : Nat) ≠ 1 := by assumption
      rw [fm (by decide)] at q1 q2
      subst hQQ
      exact Post.mk F' ⟨_, _, rfl, (N' _ (.head _)).2.2, News.isList N' (.head _), three_are rfl (by assumption) (by
        rw [if_neg (by omega), if_neg (by omega)]
        show others.getD (Int.toNat (Int.fmod (Int.fdiv (b : Int) (4 : Nat)) (71 : Nat))) 0 = _
        rw [fd, fm (by decide), Int.toNat_natCast])⟩
end
end

/-! ## part Comp3 -/
section
open PySem PySem.W PyProof.Rows PySem.Calls
theorem paired_sign {l : List Nat} : ∀ {vs : List Value}, vs.length = l.length → (∀ j v, vs[j]? = some v → SignAt (S l) j v) → Paired (fun (v : Value) (c : Nat) => ∃ t, v = Value.str (S [c]) t) vs l := by
  have key : ∀ (l : List Nat) (vs : List Value), vs.length = l.length → (∀ (j : Nat) (v : Value), vs[j]? = some v → ∃ (c : Nat) (u : Tok), l[j]? = some c ∧ v = Value.str (S [c]) u) → Paired (fun (v : Value) (c : Nat) => ∃ t, v = Value.str (S [c]) t) vs l := by
    intro l
    induction l with
    | nil => intro vs h _; rw [List.eq_nil_of_length_eq_zero h]; exact .nil
    | cons c l ih =>
      intro vs h hP
      match vs, h with
      | v :: vs, h =>
        obtain ⟨c', u, hc, rfl⟩ := hP 0 v rfl
        cases hc
        exact .cons ⟨u, rfl⟩ (ih vs (by simpa using h) fun j v hv => hP (j + 1) v hv)
  intro vs h hP
  refine key l vs h fun j v hv => ?_
  obtain ⟨c, u, hc, rfl⟩ := hP j v hv
  exact ⟨c, u, by simpa [S] using hc, rfl⟩
theorem ints_of {p : Value → Bool} {q : Nat → Bool} {f : Nat → Int} {F : Value → Value → Prop} (hp : ∀ (c : Nat) t, p (.str (S [c]) t) = q c) (hF : ∀ (c : Nat) t y, F (.str (S [c]) t) y → ∃ k, y = .int (f c) k) {vs : List Value} {l : List Nat} (h : Paired (fun (v : Value) (c : Nat) => ∃ t, v = Value.str (S [c]) t) vs l) :
    ∀ {ys : List Value}, Paired F (vs.filter p) ys → IntsAre ys ((l.filter q).map f) := by
  induction h with
  | nil => intro ys h; cases h; exact .nil
  | @cons v c vs l hv ht ih =>
    intro ys h
    obtain ⟨t, rfl⟩ := hv
    cases hq : q c with
    | false =>
      rw [List.filter_cons_of_neg (by rw [hp, hq]; decide)] at h
      rw [List.filter_cons_of_neg (by rw [hq]; decide)]
      exact ih h
    | true =>
      rw [List.filter_cons_of_pos (by rw [hp, hq])] at h
      rw [List.filter_cons_of_pos hq, List.map_cons]
      cases h with
      | cons h1 h2 =>
        obtain ⟨k, rfl⟩ := hF c t _ h1
        exact .cons _ _ (ih h2)
theorem S_single {c d : Nat} (h : S [c] = S [d]) : c = d := by have := S_inj h; simpa using this
end

/-! ## part P2 -/
section
open PySem PySem.W PyProof.Rows PySem.Calls PySem.StrLaws
/-- parts, joined by = -/
noncomputable def joinL : List (List Nat) → List Nat
  | [] => []
  | [x] => x
  | x :: y :: r => x ++ 61 :: joinL (y :: r)
noncomputable def tl : List (List Nat) → List Nat
  | [] => []
  | p :: r => 61 :: (p ++ tl r)
theorem joinL_tl (p : List Nat) (r : List (List Nat)) : joinL (p :: r) = p ++ tl r := by
  induction r generalizing p with
  | nil => simp [joinL, tl]
  | cons q r ih => rw [joinL, ih, tl]
/-- does it begin with two figures -/
noncomputable def hh2 : List Nat → Bool
  | x :: y :: _ => decide (x ∈ hexL) && decide (y ∈ hexL)
  | _ => false
noncomputable def hv2 : List Nat → Nat
  | x :: y :: _ => 16 * hexV x + hexV y
  | _ => 0
/-- what a part behind an = gives -/
noncomputable def piece (p : List Nat) (last : Bool) : List Nat := if hh2 p then hv2 p :: p.drop 2 else if p ≠ [] ∨ last = false then 61 :: p else []
noncomputable def Eo : List (List Nat) → List Nat
  | [] => []
  | p :: r => piece p (r.isEmpty) ++ Eo r
noncomputable def soft (r : List (List Nat)) : Bool := decide (r.getLast? = some [])
theorem no61 : (61 : Nat) ∉ hexL := by decide
theorem go_app {p t : List Nat} (hp : 61 ∉ p) (ht : t = [] ∨ ∃ u, t = 61 :: u) : go (p ++ t) = p ++ (if t = [] then (if p = [] then [] else [10]) else go t) := by
  induction p with
  | nil =>
    rcases ht with rfl | ⟨u, rfl⟩
    · simp [go_nil]
    · simp
  | cons c r ih =>
    simp only [List.mem_cons, not_or] at hp
    rw [List.cons_append, go_ne (Ne.symm hp.1)]
    by_cases hr : r ++ t = []
    · rw [if_pos hr]
      obtain ⟨rfl, rfl⟩ := List.append_eq_nil_iff.mp hr
      simp
    · rw [if_neg hr, ih hp.2]
      by_cases h2 : t = []
      · subst h2
        have : r ≠ [] := by simpa using hr
        simp [this]
      · simp [h2]
theorem tl_shape (r : List (List Nat)) : tl r = [] ∨ ∃ u, tl r = 61 :: u := by cases r with | nil => exact .inl rfl | cons p r => exact .inr ⟨_, rfl⟩
theorem tl_nil {r : List (List Nat)} : tl r = [] ↔ r = [] := by cases r <;> simp [tl]
theorem soft_cons (p : List Nat) {r : List (List Nat)} (h : r ≠ []) : soft (p :: r) = soft r := by
  unfold soft; rw [List.getLast?_cons]; cases r with | nil => exact absurd rfl h | cons q r => simp [List.getLast?_cons]
theorem go_parts (rest : List (List Nat)) : ∀ p0 : List Nat, 61 ∉ p0 → (∀ p ∈ rest, 61 ∉ p) → go (p0 ++ tl rest) = p0 ++ Eo rest ++ (if p0 ++ tl rest = [] then [] else if soft rest then [] else [10]) := by
  induction rest with
  | nil =>
    intro p0 h0 _
    have := go_app h0 (.inl rfl : ([] : List Nat) = [] ∨ _)
    simp only [List.append_nil, if_true] at this
    simp [tl, Eo, this, soft]
  | cons p1 rs ih =>
    intro p0 h0 hf
    have h1 : 61 ∉ p1 := hf p1 (.head _)
    have hrs : ∀ p ∈ rs, 61 ∉ p := fun p hp => hf p (.tail _ hp)
    rw [go_app h0 (tl_shape _), if_neg (by simp [tl])]
    have hne : ¬ (p0 ++ tl (p1 :: rs) = []) := by simp [tl]
    rw [if_neg hne, List.append_assoc]
    congr 1
    show go (61 :: (p1 ++ tl rs)) = Eo (p1 :: rs) ++ _
    cases hh : hh2 p1 with
    | true =>
      match p1, hh, h1 with
      | x :: y :: r, hh, h1 =>
        simp only [hh2, Bool.and_eq_true, decide_eq_true_eq] at hh
        have hr : 61 ∉ r := fun h => h1 (by simp [h])
        have hE : Eo ((x :: y :: r) :: rs) = (16 * hexV x + hexV y) :: (r ++ Eo rs) := by
          rw [Eo, piece, if_pos (by simp [hh2, hh])]; rfl
        rw [hE]
        show go (61 :: x :: y :: (r ++ tl rs)) = _
        rw [go_hex hh.1 hh.2, ih r hr hrs]
        have hs : soft ((x :: y :: r) :: rs) = soft rs := by
          by_cases h : rs = []
          · subst h; simp [soft]
          · exact soft_cons _ h
        rw [hs]
        by_cases hz : r ++ tl rs = []
        · obtain ⟨rfl, h2⟩ := List.append_eq_nil_iff.mp hz
          have := tl_nil.mp h2; subst this
          simp [Eo, soft, tl]
        · rw [if_neg hz, if_neg hz]; simp
    | false =>
      by_cases hz : p1 ++ tl rs = []
      · obtain ⟨rfl, h2⟩ := List.append_eq_nil_iff.mp hz
        have := tl_nil.mp h2; subst this
        simp [tl, go_end, Eo, piece, hh2, soft]
      · have hE : Eo (p1 :: rs) = 61 :: (p1 ++ Eo rs) := by
          rw [Eo, piece, if_neg (by simp [hh]), if_pos ?_]
          · rfl
          · by_cases h : p1 = []
            · right
              have : rs ≠ [] := by rintro rfl; exact hz (by simp [h, tl])
              cases rs with | nil => exact absurd rfl this | cons _ _ => rfl
            · exact .inl h
        rw [go_eq hz ?_, ih p1 h1 hrs, if_neg hz, hE]
        · have hs : soft (p1 :: rs) = soft rs := by
            by_cases h : rs = []
            · subst h
              have : p1 ≠ [] := by rintro rfl; exact hz rfl
              simp [soft, this]
            · exact soft_cons _ h
          rw [hs]; simp
        · intro x y r' e hxy
          match p1, hh with
          | [], _ =>
            rcases tl_shape rs with h | ⟨u, h⟩
            · rw [h] at e; cases e
            · rw [h] at e; cases e; exact no61 hxy.1
          | [a], _ =>
            rcases tl_shape rs with h | ⟨u, h⟩
            · rw [h] at e; cases e
            · rw [h] at e; cases e; exact no61 hxy.2
          | a :: b :: r, hh =>
            cases e
            simp [hh2, hxy] at hh
/-- what _law_read makes of the parts -/
noncomputable def readP (p0 : List Nat) (rest : List (List Nat)) : List Nat :=
  if soft rest && decide ((p0 ++ Eo rest).getLast? = some 10) then (p0 ++ Eo rest).dropLast else p0 ++ Eo rest
theorem read_dec (p0 : List Nat) (rest : List (List Nat)) (h0 : 61 ∉ p0) (hf : ∀ p ∈ rest, 61 ∉ p) : readP p0 rest = decL (p0 ++ tl rest) := by
  unfold decL outL
  have hg := go_parts rest p0 h0 hf
  by_cases hz : p0 ++ tl rest = []
  · obtain ⟨rfl, h2⟩ := List.append_eq_nil_iff.mp hz
    have := tl_nil.mp h2; subst this
    rw [if_pos hz]; simp [readP, soft, cut, Eo]
  · rw [if_neg hz, hg, if_neg hz]
    unfold readP cut
    cases hs : soft rest with
    | true => simp
    | false => simp
/-- the pieces of the first i parts -/
noncomputable def Et : Nat → List (List Nat) → List Nat
  | 0, _ => []
  | _ + 1, [] => []
  | i + 1, p :: r => piece p r.isEmpty ++ Et i r
theorem Et_all : ∀ r : List (List Nat), Et r.length r = Eo r
  | [] => rfl
  | p :: r => by rw [List.length_cons, Et, Et_all r, Eo]
theorem Et_succ : ∀ (i : Nat) (r : List (List Nat)) (p : List Nat), r[i]? = some p → Et (i + 1) r = Et i r ++ piece p (decide (i + 1 = r.length))
  | 0, q :: r, p, h => by
    cases h
    cases r <;> simp [Et]
  | i + 1, q :: r, p, h => by
    have h' : r[i]? = some p := by simpa using h
    rw [Et, Et_succ i r p h', Et]
    simp
theorem piece_len (p : List Nat) (b : Bool) : (piece p b).length ≤ p.length + 1 := by
  unfold piece
  split
  · simp
  · split <;> simp
theorem Et_len : ∀ (i : Nat) (r : List (List Nat)), (Et i r).length ≤ (tl r).length
  | 0, _ => by simp [Et]
  | _ + 1, [] => by simp [Et]
  | i + 1, p :: r => by
    have h1 := Et_len i r
    have h2 := piece_len p r.isEmpty
    simp only [Et, tl, List.length_append, List.length_cons]
    omega
theorem mem_tl {c : Nat} : ∀ {r : List (List Nat)} {p : List Nat}, p ∈ r → c ∈ p → c ∈ tl r
  | _ :: _, _, .head _, h => by simp [tl, h]
  | _ :: _, _, .tail _ hp, h => by simp [tl, mem_tl hp h]
/-- the library's split, as parts -/
theorem split_parts (r : List Nat) : ∃ p0 rest, Txt.split (S r) (S [61]) = (p0 :: rest).map S ∧ r = p0 ++ tl rest ∧ 61 ∉ p0 ∧ ∀ p ∈ rest, 61 ∉ p := by
  have hj := join_split (S r) (S [61])
  have hf := split_free (S r) 61
  have hpos := split_pos (S r) (S [61])
  have hS : ∀ L : List Str, L = (L.map fun x => x.cps.toList).map S := by
    intro L
    induction L with
    | nil => rfl
    | cons x r ih => rw [List.map_cons, List.map_cons, ← ih, ← S_of x]
  obtain ⟨ps, hps⟩ : ∃ ps : List (List Nat), Txt.split (S r) (S [61]) = ps.map S := ⟨_, hS _⟩
  have hjl : ∀ ps : List (List Nat), Str.join (S [61]) (ps.map S) = S (joinL ps) := by
    intro ps
    induction ps with
    | nil => rfl
    | cons p r ih =>
      cases r with
      | nil => rfl
      | cons q r =>
        show S p ++ S [61] ++ Str.join (S [61]) ((q :: r).map S) = _
        rw [ih, S_app, S_app, joinL]; simp
  change ∀ p ∈ Txt.split (S r) (S [61]), 61 ∉ p.cps.toList at hf
  rw [hps] at hj hf hpos
  rw [hjl] at hj
  match ps, hps, hj, hf, hpos with
  | p0 :: rest, hps, hj, hf, _ =>
    have e := S_inj hj
    rw [joinL_tl] at e
    have h61 : ∀ p ∈ p0 :: rest, 61 ∉ p := fun p hp => by have := hf (S p) (List.mem_map_of_mem hp); rwa [S_list] at this
    exact ⟨p0, rest, hps, e.symm, h61 p0 (.head _), fun p hp => h61 p (.tail _ hp)⟩
end

/-! ## part P3 -/
section
open PySem PySem.W PyProof.Rows PySem.Calls PySem.StrLaws
theorem S_nil_eq (l : List Nat) : (S l == Str.ofString "") = decide (l = []) := by
  by_cases h : l = []
  · subst h; rfl
  · rw [decide_eq_false h, beq_eq_false_iff_ne]
    intro e
    exact h (S_inj (e.trans (show Str.ofString "" = S [] from rfl)))
theorem S_last10 (l : List Nat) : (Txt.slice (S l) (some (-1)) none == Str.ofString "\n") = decide (l.getLast? = some 10) := by
  rw [S_slice]
  rcases List.eq_nil_or_concat l with rfl | ⟨a, x, rfl⟩
  · decide
  · rw [List.concat_eq_append]
    have e : ((a ++ [x]).drop (clp (a ++ [x]).length (some (-1)) 0)).take (clp (a ++ [x]).length none (a ++ [x]).length - clp (a ++ [x]).length (some (-1)) 0) = [x] := by
      have h1 : clp (a ++ [x]).length (some (-1)) 0 = a.length := by simp only [clp, List.length_append, List.length_cons, List.length_nil]; simp; omega
      have h2 : clp (a ++ [x]).length none (a ++ [x]).length = a.length + 1 := by simp [clp]
      rw [h1, h2, List.drop_left, Nat.add_sub_cancel_left]; rfl
    rw [e]
    by_cases hx : x = 10
    · subst hx; simp; rfl
    · rw [beq_eq_false_iff_ne.mpr, decide_eq_false]
      · simp [hx]
      · intro q
        exact hx (by simpa using S_inj (q.trans (show Str.ofString "\n" = S [10] from rfl)))
theorem soft_get {p0 : List Nat} {rest : List (List Nat)} {ss : List Str} (h : rest ≠ []) (hsp : ss = (p0 :: rest).map S) : (ss.getD (Int.toNat (-1 + (ss.length : Int))) Str.empty == Str.ofString "") = soft rest := by
  subst hsp
  have e : Int.toNat (-1 + ((((p0 :: rest).map S).length : Nat) : Int)) = rest.length := by rw [List.length_map, List.length_cons]; omega
  rw [e, List.getD_eq_getElem?_getD, List.getElem?_map]
  obtain ⟨m, hm⟩ : ∃ m, rest.length = m + 1 := ⟨rest.length - 1, by have := List.length_pos_iff.mpr h; omega⟩
  have hl : (p0 :: rest)[rest.length]? = rest.getLast? := by rw [hm, List.getElem?_cons_succ, List.getLast?_eq_getElem?, hm, Nat.add_sub_cancel]
  rw [hl]
  obtain ⟨z, hz⟩ : ∃ z, rest.getLast? = some z := ⟨_, List.getLast?_eq_some_getLast h⟩
  unfold soft
  rw [hz]
  show (S z == _) = _
  rw [S_nil_eq]
  simp
theorem readT {p0 : List Nat} {rest : List (List Nat)} {l : List Nat} (hr : rs l = p0 ++ tl rest) (h0 : 61 ∉ p0) (hf : ∀ p ∈ rest, 61 ∉ p) (hs : soft rest = true) (he : (p0 ++ Et rest.length rest).getLast? = some 10) : decL (rs l) = (p0 ++ Et rest.length rest).dropLast := by
  rw [hr, ← read_dec p0 rest h0 hf, readP, Et_all] at *
  rw [hs, he]; rfl
theorem readF {p0 : List Nat} {rest : List (List Nat)} {l : List Nat} (hr : rs l = p0 ++ tl rest) (h0 : 61 ∉ p0) (hf : ∀ p ∈ rest, 61 ∉ p) (hs : soft rest = false ∨ (p0 ++ Et rest.length rest).getLast? ≠ some 10) : decL (rs l) = p0 ++ Et rest.length rest := by
  rw [hr, ← read_dec p0 rest h0 hf, readP, Et_all] at *
  rcases hs with hs | hs
  · simp [hs]
  · rw [decide_eq_false hs, Bool.and_false]; rfl
end
local macro_rules | `(tactic| walk_at "call builtin:len") => `(tactic| (k_dflt (refine len_L ‹_› ‹_› (by omega) ?_)))

/-! ## part Rd -/
section
open PySem PySem.W PyProof.Rows PySem.Calls

theorem sv_at {qs : List (Str × Tok)} {ps : List (List Nat)} (h : qs.map (fun x => Prod.fst x) = ps.map S) {j : Nat} {p : List Nat} (hp : ps[j]? = some p) : ∃ t, (strValues qs)[j]? = some (.str (S p) t) := by
  have e : (qs.map (fun x => Prod.fst x))[j]? = some (S p) := by rw [h, List.getElem?_map, hp]; rfl
  rw [List.getElem?_map] at e
  obtain ⟨q, hq, hq1⟩ := Option.map_eq_some_iff.mp e
  refine ⟨q.2, ?_⟩
  show (qs.map fun p => Value.str p.1 p.2)[j]? = _
  rw [List.getElem?_map, hq, ← hq1]; rfl
theorem tl_len : ∀ r : List (List Nat), r.length ≤ (tl r).length
  | [] => Nat.le_refl _
  | p :: r => by have := tl_len r; simp only [tl, List.length_cons, List.length_append]; omega
theorem mem_tl_len : ∀ {r : List (List Nat)} {p : List Nat}, p ∈ r → p.length ≤ (tl r).length
  | _ :: _, _, .head _ => by simp [tl]; omega
  | _ :: _, _, .tail _ hp => by have := mem_tl_len hp; simp only [tl, List.length_cons, List.length_append]; omega
theorem isL_of {h : Heap} {a : Addr} {o : Obj} {vs : List Value} (hc : o.cls = .type "list" ∧ ∃ n, o.data = Data.seq vs.toArray n) (ho : h.get? a = some o) : h.IsList a vs.toArray := ⟨o, ho, hc⟩
theorem sv_len {qs : List (Str × Tok)} {ps : List (List Nat)} (h : qs.map (fun x => Prod.fst x) = ps.map S) : qs.length = ps.length := by
  have := congrArg List.length h; simpa using this
theorem hh2_inv : ∀ {p : List Nat}, hh2 p = true → ∃ x y r, p = x :: y :: r ∧ x ∈ hexL ∧ y ∈ hexL
  | x :: y :: r, h => by simp only [hh2, Bool.and_eq_true, decide_eq_true_eq] at h; exact ⟨x, y, r, rfl, h.1, h.2⟩
theorem ints2 {zs : List Value} {a b : Int} (h : IntsAre zs [a, b]) : ∃ k1 k2, zs = [.int a k1, .int b k2] := by
  cases h with | cons _ t h => cases h with | cons _ u h => cases h; exact ⟨t, u, rfl⟩
theorem c_concatE {w : World} {A : Around} {s : Shared} {a b : List Nat} {x y : Str} {t u : Tok} (R : Rd 0 w A s.heap) (hx : x = S a) (hy : y = S b) (ha : a.length ≤ 100) (hb : b.length ≤ 100) : Ok w A (call (.ref 64) [.str x t, .str y u]) (fun v _ => ∃ k, v = .str (S (a ++ b)) k) s := by
  subst hx; subst hy
  exact c_concat R ha hb
theorem flt_len : ∀ {p : List Nat}, hh2 p = false → ((p.take 2).filter fun c => decide (c ∈ hexL)).length < 2
  | [], _ => by simp
  | [a], _ => by by_cases h : a ∈ hexL <;> simp [h]
  | a :: b :: r, h => by
    simp only [hh2, Bool.and_eq_false_iff, decide_eq_false_iff_not] at h
    by_cases h1 : a ∈ hexL <;> by_cases h2 : b ∈ hexL <;> simp_all
noncomputable def isHexV (v : Value) : Bool := match v with | .str x _ => (match x.cps.toList with | [c] => decide (c ∈ hexL) | _ => false) | _ => false
local macro_rules | `(tactic| walk_at "compareOp In str ref") => `(tactic| (k_dflt (refine in_strTab ‹_› ?_)))
local macro_rules | `(tactic| walk_at "subscriptTail Name Name ref str") => `(tactic| (k_dflt (refine item_strTab ‹_› ‹_› ?_); intro v' hv'))
section
variable {w : World} {A : Around} {s : Shared} {E : Value → Shared → Prop}
set_option maxRecDepth 100000
set_option maxHeartbeats 8000000
theorem c_read {l : List Nat} {V : Addr} {D : List (PyData × PyData)} {t : Tok} (R : Rd 1 w A s.heap) (hl : l.length ≤ 10) (hok : ∀ c ∈ l, okC c) (hT : StrTab PR w s.heap V D) (hD : ∀ c ∈ l, PySem.Spec.lookup (.str (S [c])) D = if c ∈ hexL then some (.int (hexV c)) else none) :
    Ok w A (call (.ref 103) [.str (S l) t, .ref V]) (fun v s' => ∃ k, v = .str (S (decL (rs l))) k) s := by
  have RR := R
  obtain ⟨X, ⟨p, loose, mg, mb, T⟩, hA, hu, hh⟩ := R
  have hlS : Str.length (S l) ≤ 10 := by rw [S_len]; exact hl
  unfold Ok
  (
    refine' enterC (by assumption) (TopRead.nolimit (by assumption)) ?k6 ?k7 ?k8 ?k9 ?kB ?kD ?_ ?c2 ?c3 ?c4;
    (case k6 => k_is); (case k7 => k_is); (case k8 => ((have : recursionLimit = 1000 := rfl); omega)); (case k9 => first | exact BindsTo.of_eq rfl | exact binds_K (by k_in) rfl (by k_is) rfl rfl rfl); (case kB => exact rfl); (case kD => decide +kernel); (case c2 => exact rfl); (case c3 => exact rfl); (case c4 => exact rfl))
  clear hA hu
  intro L h₁ tk₀ cells F N Y
  k_cells Y
  replace F : Fr s.heap L h₁ (mp [(Str.ofString "text", some (.str (S l) t))]) := by
    refine (?_ : (bindL _ _ _) = mp _) ▸ F
    funext y
    rfl
  refine hideQ fun QQ hQQ => ?_
  rename (Obj.data _ = _) => hcv
  replace hcv := hcv.trans (show _ = Data.cell (some (.ref V)) from rfl)
  try k_fold
  k_steps
  (rename Fr _ _ _ _ => F'); (rename News _ _ _ _ => N'); (rename IsRange _ _ _ _ _ _ _ _ => hR)
  rename (List.map _ _ = Txt.split _ _) => hsp
  rename ((List.map _ _)[_]? = some _) => hy0
  rw [S_rstrip, eq1_S] at hsp
  obtain ⟨p0, rest, hsplit, hr, h0, hf⟩ := split_parts (rs l)
  rw [hsplit] at hsp
  rw [hsp] at hy0
  have hy : some (S p0) = some _ := hy0
  injection hy with hy
  subst hy
  have hql := sv_len hsp
  have hrl : (p0 ++ tl rest).length ≤ 10 := by rw [← hr]; exact Nat.le_trans (rs_len l) hl
  have hml : ∀ c ∈ p0 ++ tl rest, c ∈ l := by
    rw [← hr]; intro c hc
    unfold rs at hc
    rw [List.mem_reverse] at hc
    exact List.mem_reverse.mp ((List.dropWhile_sublist _).subset hc)
  clear hy0
  obtain ⟨P, tt, oP, hoP, F', N'⟩ : ∃ P tt oP, (oP.cls = .type "list" ∧ ∃ n, oP.data = Data.seq (List.toArray (strValues _)) n) ∧ Fr s.heap L _ (mp [(Str.ofString "text", some (.str (S l) t)), (Str.ofString "parts", some (.ref P)), (Str.ofString "out", some (.str (S (p0 ++ Et 0 rest)) tt)), (Str.ofString "place", none), (Str.ofString "part", none), (Str.ofString "figures", none)]) ∧ News s.heap L _ [(P, oP), (L + 1, _)] :=
    ⟨_, _, _, ⟨rfl, _, rfl⟩, (List.append_nil p0).symm ▸ Fr.slot (Str.ofString "figures") (Fr.slot (Str.ofString "part") (Fr.slot (Str.ofString "place") F')), N'⟩
  have hNlt : ∀ p ∈ [(P, oP), (L + 1, _)], p.1 < _ := fun p hp => Heap.lt_size (N' p hp).1
  refine for_range (n := rest.length) (fun i m news => news = [(P, oP), (L + 1, _)] ∧ ∃ (tt : Tok) (v1 v2 v3 : Option Value), m = mp [(Str.ofString "text", some (.str (S l) t)), (Str.ofString "parts", some (.ref P)), (Str.ofString "out", some (.str (S (p0 ++ Et i rest)) tt)), (Str.ofString "place", v1), (Str.ofString "part", v2), (Str.ofString "figures", v3)]) hh rfl rfl rfl F' N' hR (by omega) (by simp only [List.length_cons] at hql; have := tl_len rest; simp only [List.length_append] at hrl; omega) (by simp only [List.length_cons] at hql; omega) ⟨rfl, _, _, _, _, rfl⟩ ?_ ?_ ?_
  · rintro i m₁ news₁ ⟨rfl, _⟩ p hp
    exact hNlt p hp
  · rintro i ti m₁ news₁ h₂ tk₁ I oI hi ⟨rfl, tt, v1, v2, v3, rfl⟩ hlt F₁ N₁
    clear F' N' hR
    replace F₁ := Fr.up F₁
    obtain ⟨pt, hpt⟩ : ∃ pt, rest[i]? = some pt := ⟨rest[i], by simp [hi]⟩
    obtain ⟨tp, hsv⟩ := sv_at hsp (j := 1 + i) (p := pt) (by rw [Nat.add_comm]; exact hpt)
    have hpar := isL_of hoP (N₁ _ (.tail _ (.head _))).1
    have hplen : (strValues _).length ≤ 1000 := Nat.le_trans (Nat.le_of_eq ((List.length_map _).trans hql)) (by simp only [List.length_cons]; have := tl_len rest; simp only [List.length_append] at hrl; omega)
    refine hideQ fun QT hQT => ?_
    try k_fold
    have hptl : ∀ c ∈ pt, c ∈ l := fun c hc => hml c (List.mem_append_right _ (mem_tl (List.mem_of_getElem? hpt) hc))
    have hptn : pt.length ≤ 10 := by
      have h1 := List.mem_of_getElem? hpt
      have h2 : pt.length ≤ (tl rest).length := mem_tl_len h1
      simp only [List.length_append] at hrl; omega
    have hptS : Str.length (S pt) ≤ 10 := by rw [S_len]; exact hptn
    k_steps
    unfold Stop
    (rename Fr _ _ _ _ => F'); (rename News _ _ _ _ => N')
    refine Ok.use (c_getL (rdX RR F') hpar hplen hsv) F' N' ?_
    rintro _ h' tk' hk' F'' N'' rfl
    clear F' N'
    try dsimp only
    k_steps
    (rename Fr _ _ _ _ => F'); (rename News _ _ _ _ => N')
    refine wpAny_Assign_ListComp_free isHexV (fun v y => ∃ c t k, v = .str (S [c]) t ∧ y = .int (hexV c : Int) k) rfl rfl (by decide) rfl (by decide) rfl rfl rfl ?_
    k_steps
    try clear F'
    try clear N'
    (rename Fr _ _ _ _ => F'); (rename News _ _ _ _ => N')
    have hsl : Txt.slice (S pt) none (some 2) = S (pt.take 2) := S_take2 pt
    rw [hsl]
    refine wpAny_pyIter_str fun o St W hst => ?_
    have hRd := AllRd.of RR F'
    have hcell := (N' _ (.tail _ (.tail _ (.head _)))).1
    have hTV := hT.keep F'.keep
    have hcl : ∀ j c, (Str.cps (S (List.take 2 pt)))[j]? = some c → c ∈ l := fun j c hc => hptl c (List.mem_of_mem_take (List.mem_of_getElem? (i := j) (by simpa [S] using hc)))
    refine ⟨_, _, _, _, _, _, _, rfl, W _ hh, ?_, hst, ?_, ?_, (F'.push _).ns, quiet ?_ ?_, ?_⟩
    · show (S (pt.take 2)).length ≤ _
      have : sizeLine = 16777216 := rfl
      rw [S_len, List.length_take]; omega
    · intro b hb; rw [List.mem_singleton.mp hb, Heap.size_push]; exact Nat.lt_succ_self _
    · intro hm; exact absurd F'.ns.lt ((List.mem_singleton.mp hm) ▸ Nat.lt_irrefl _)
    · rintro C j v s₃ m₃ ⟨c, uc, hc, rfl⟩ hn hm hk
      have kk := kept_push hk
      have hRd3 := hRd.keeps kk
      obtain ⟨X3, ⟨p3, loose3, mg3, mb3, T3⟩, _, _, _⟩ := hRd3 default
      have hcell3 := kk _ _ hcell
      have hT3 := hTV.keep kk
      clear hk
      k_steps
      refine CPost.mk (fun _ _ e => e) ?_
      rw [show ({ cps := #[c] } : Str) = S [c] from rfl, hD c (hcl j c hc)]
      by_cases hx : c ∈ hexL <;> simp [hx, isHexV, S]
    · rintro C j v s₃ m₃ ⟨c, uc, hc, rfl⟩ hp hn hm hk
      have kk := kept_push hk
      have hRd3 := hRd.keeps kk
      obtain ⟨X3, ⟨p3, loose3, mg3, mb3, T3⟩, _, _, _⟩ := hRd3 default
      have hcell3 := kk _ _ hcell
      have hT3 := hTV.keep kk
      have hcx : c ∈ hexL := by simpa [isHexV] using hp
      have hlk : Spec.lookup (.str { cps := #[c] }) D = some (.int (hexV c : Int)) := by
        rw [show ({ cps := #[c] } : Str) = S [c] from rfl, hD c (hcl j c hc), if_pos hcx]
      clear hk
      k_steps
      obtain ⟨k, rfl⟩ := PyProof.V.Flat.int_inv (by assumption)
      exact CPost.mk (fun _ _ e => e) ⟨_, _, _, rfl, rfl⟩
    · rintro D' h' tk ys vs hD' hl' hpl hlen hP hF hns hk
      rw [show ys = ys.toList.toArray from by simp] at hl'
      obtain ⟨F₂, N₂, hDL, hD0, hkk, _⟩ := after_comp F' N' hns hk hD' hl'
      have hin := ints_of (p := isHexV) (q := fun c => decide (c ∈ hexL)) (f := fun c => (hexV c : Int)) (fun c t => rfl) (fun c t y h => by obtain ⟨c', t', k, e, rfl⟩ := h; injection e with e1 e2; rw [S_single e1]; exact ⟨k, rfl⟩) (paired_sign (by rw [hlen]; exact S_len _) hP) hF
      generalize ys.toList = zs at hl' hin
      clear hF hpl hP hlen hns hk
      clear hkk hD' hst W
      have hpar' := isL_of hoP (N₂ _ (.tail _ (.head _))).1
      clear F' N'
      have hoS : Str.length (S (p0 ++ Et i rest)) ≤ 10 := by rw [S_len]; have := Et_len i rest; simp only [List.length_append] at hrl ⊢; omega
      cases hh : hh2 pt with
      | true =>
        obtain ⟨x, y, r, rfl, hx, hy⟩ := hh2_inv hh
        have hin2 : IntsAre zs [(hexV x : Int), (hexV y : Int)] := by simpa [hx, hy] using hin
        obtain ⟨k1, k2, rfl⟩ := ints2 hin2
        have hx15 := hexV_le x hx
        have hy15 := hexV_le y hy
        k_steps
        rw [show 16 * List.getD [(hexV x : Int), (hexV y : Int)] (Int.toNat 0) 0 + List.getD [(hexV x : Int), (hexV y : Int)] (Int.toNat 1) 0 = ((16 * hexV x + hexV y : Nat) : Int) from by simp]
        k_steps
        try unfold Stop
        (rename Fr _ _ _ _ => F'); (rename News _ _ _ _ => N')
        refine Ok.use (c_concatE (b := (16 * hexV x + hexV y) :: r) (rdX RR F') rfl (by
          rw [Int.toNat_natCast, show ({ cps := #[16 * hexV x + hexV y] } : Str) = S [16 * hexV x + hexV y] from rfl, S_drop2, S_app]; rfl) (by rw [S_len] at hoS; omega) (by simp only [List.length_cons] at hptn ⊢; omega)) F' N' ?_
        intro v h'' tk'' hk'' F'' N'' hv
        obtain ⟨k, rfl⟩ := hv
        clear F' N'
        k_steps
        try unfold Stop
        (rename Fr _ _ _ _ => F'); (rename News _ _ _ _ => N')
        subst hQT
        refine TurnPost.next F' N' ⟨rfl, k, some (.int (1 + (i : Int)) ti), some (.str (S (x :: y :: r)) tp), some (.ref D'), ?_⟩
        rw [Et_succ i rest _ hpt, piece, if_pos hh, ← List.append_assoc]
        rfl
      | false =>
        have hn3 := flt_len hh
        obtain ⟨n, hn⟩ : ∃ n, zs.length = n := ⟨_, rfl⟩
        have hnn : n = ((pt.take 2).filter fun c => decide (c ∈ hexL)).length := by rw [← hn, IntsAre.length hin, List.length_map]
        have hn2 : n < 2 := by omega
        have hpl2 : (strValues _).length = rest.length + 1 := (List.length_map _).trans hql
        have hrn : rest.length < 20 := by have := tl_len rest; simp only [List.length_append] at hrl; omega
        clear hnn hn3
        k_steps
        · exfalso; omega
        · unfold Stop
          (rename Fr _ _ _ _ => F'); (rename News _ _ _ _ => N')
          have hne : pt ≠ [] := by rintro rfl; exact absurd (show (S [] != Str.ofString "") = true by assumption) (by decide)
          refine Ok.use (c_concatE (b := 61 :: pt) (rdX RR F') rfl (by rw [show Str.ofString "=" = S [61] from rfl, S_app]; rfl) (by rw [S_len] at hoS; omega) (by simp only [List.length_cons]; omega)) F' N' ?_
          intro v h'' tk'' hk'' F'' N'' hv
          obtain ⟨k, rfl⟩ := hv
          clear F' N'
          k_steps
          try unfold Stop
          (rename Fr _ _ _ _ => F'); (rename News _ _ _ _ => N')
          subst hQT
          refine TurnPost.next F' N' ⟨rfl, k, some (.int (1 + (i : Int)) ti), some (.str (S pt) tp), some (.ref D'), ?_⟩
          rw [Et_succ i rest _ hpt, piece, if_neg (by rw [hh]; decide), if_pos (.inl hne), ← List.append_assoc]
          rfl
        · unfold Stop
          (rename Fr _ _ _ _ => F'); (rename News _ _ _ _ => N')
          have hne : i + 1 ≠ rest.length := by omega
          refine Ok.use (c_concatE (b := 61 :: pt) (rdX RR F') rfl (by rw [show Str.ofString "=" = S [61] from rfl, S_app]; rfl) (by rw [S_len] at hoS; omega) (by simp only [List.length_cons]; omega)) F' N' ?_
          intro v h'' tk'' hk'' F'' N'' hv
          obtain ⟨k, rfl⟩ := hv
          clear F' N'
          k_steps
          try unfold Stop
          (rename Fr _ _ _ _ => F'); (rename News _ _ _ _ => N')
          subst hQT
          refine TurnPost.next F' N' ⟨rfl, k, some (.int (1 + (i : Int)) ti), some (.str (S pt) tp), some (.ref D'), ?_⟩
          rw [Et_succ i rest _ hpt, piece, if_neg (by rw [hh]; decide), if_pos (.inr (decide_eq_false hne)), ← List.append_assoc]
          rfl
        · try unfold Stop
          (rename Fr _ _ _ _ => F'); (rename News _ _ _ _ => N')
          have hne : i + 1 = rest.length := by omega
          have hpe : pt = [] := by
            have h1 : (S pt != Str.ofString "") = false := by assumption
            have h2 : S pt = Str.ofString "" := by simpa using h1
            exact S_inj (h2.trans (show Str.ofString "" = S [] from rfl))
          subst hQT
          refine TurnPost.next F' N' ⟨rfl, tt, some (.int (1 + (i : Int)) ti), some (.str (S pt) tp), some (.ref D'), ?_⟩
          rw [Et_succ i rest _ hpt, piece, if_neg (by rw [hh]; decide), if_neg (by simp [hne, hpe]), List.append_nil]
          rfl
  · rintro m₁ news₁ h₂ tk₁ ⟨rfl, tt, v1, v2, v3, rfl⟩ F₁ N₁
    clear F' N' hR
    have hpl2 : (strValues _).length = rest.length + 1 := (List.length_map _).trans hql
    have hrn : rest.length < 20 := by have := tl_len rest; simp only [List.length_append] at hrl; omega
    have hpar := isL_of hoP (N₁ _ (.head _)).1
    have hoS : Str.length (S (p0 ++ Et rest.length rest)) ≤ 10 := by rw [S_len]; have := Et_len rest.length rest; simp only [List.length_append] at hrl ⊢; omega
    try k_fold
    k_steps
    · have h1 := soft_get (p0 := p0) (rest := rest) (by rintro rfl; simp only [List.length_nil] at *; omega) hsp
      have h2 := S_last10 (p0 ++ Et rest.length rest)
      have h3 : soft rest = true := h1.symm.trans (by assumption)
      have h4 := of_decide_eq_true (h2.symm.trans (by assumption))
      subst hQQ
      exact Post.mk (by assumption) ⟨_, congrArg (fun x => Value.str x _) ((S_init _).trans (congrArg S (readT hr h0 hf h3 h4).symm))⟩
    · have h2 := S_last10 (p0 ++ Et rest.length rest)
      have h4 := of_decide_eq_false (h2.symm.trans (by assumption))
      subst hQQ
      exact Post.mk (by assumption) ⟨_, congrArg (fun x => Value.str x _) (congrArg S (readF hr h0 hf (.inr h4)).symm)⟩
    · have h1 := soft_get (p0 := p0) (rest := rest) (by rintro rfl; simp only [List.length_nil] at *; omega) hsp
      have h3 : soft rest = false := h1.symm.trans (by assumption)
      subst hQQ
      exact Post.mk (by assumption) ⟨_, congrArg (fun x => Value.str x _) (congrArg S (readF hr h0 hf (.inl h3)).symm)⟩
    · have h3 : rest = [] := List.eq_nil_of_length_eq_zero (by omega)
      subst hQQ
      exact Post.mk (by assumption) ⟨_, congrArg (fun x => Value.str x _) (congrArg S (readF hr h0 hf (.inl (by rw [h3]; rfl))).symm)⟩
end
end

/-! ## part CompT -/
section
open PySem PySem.W PyProof.Rows PySem.Calls
section
variable {prog : Program} {w : World} {A : Around} {R : Result → Shared → Prop} {s : Shared}
theorem compT_loop {elt iter : Expr} {x x₂ : Str} {px px₂ tp : Pos} {kk : Nat} {scope : Scope} {pos : Pos} {I D : Addr} {fp wr : List Addr} {n : Nat} {St : Nat → Heap → Prop} {Mid : Nat → Addr → Heap → Prop} {Pt : Nat → Array Value → Prop} {P : Nat → Value → Value → Prop} {cenv : Env} {m : Str → Option Value}
    (W : WalksT prog w A I fp wr n Pt St Mid) (RR : Nat → Value → Prop) (hPt : ∀ i vals, Pt i vals → ∃ a b, vals = #[a, b] ∧ P i a b) (hh : A.handled = none)
    (hx : cenv.kindOf x = some .local) (hx₂ : cenv.kindOf x₂ = some .local) (hxx : x ≠ x₂) (hp : (cenv.scope.kind == .class || (cenv.scope.kind == .module && cenv.locals != cenv.globals)) = false)
    (hDC : D ≠ cenv.locals) (hDf : D ∉ fp) (hCf : cenv.locals ∉ fp) (hst : St 0 s.heap) (hacc : s.heap.PlainList D #[]) (hn : s.heap.Ns cenv.locals m)
    (helt : ∀ i v v₂ s₂ m₂, i < n → P i v v₂ → s₂.heap.Ns cenv.locals m₂ → m₂ x = some v → m₂ x₂ = some v₂ → (∀ b o, b ≠ cenv.locals → b ∉ wr → b ≠ D → s.heap.get? b = some o → s₂.heap.get? b = some o) →
      wpAny (model prog w) A (eval elt cenv) (fun y s₃ => Keeps s₂ s₃ ∧ RR i y) (fun _ _ => False) s₂)
    (hR : ∀ h' tk m' ys, h'.Ns cenv.locals m' → h'.PlainList D ys → ys.size = n → (∀ i y, ys[i]? = some y → RR i y) →
      (∀ b o, b ≠ cenv.locals → b ∉ wr → b ≠ D → s.heap.get? b = some o → h'.get? b = some o) → R (.ok .next) { s with heap := h', toks := tk })
    (hsz : n ≤ 100000) :
    codeAny (model prog w) A (.compLoop (.ListComp elt [⟨.Tuple [.Name x px, .Name x₂ px₂] kk tp, iter, [], 0⟩] scope pos) 0 (.ref I) (.ref D) cenv) R s := by
  have hsl : sizeLine = 16777216 := rfl
  have hCw : cenv.locals ∉ wr := fun h => hCf (W.sub _ h)
  have hDw : D ∉ wr := fun h => hDf (W.sub _ h)
  refine kcp_loop
    (fun k s' => ∃ h' tk m' ys i, s' = { s with heap := h', toks := tk } ∧ St i h' ∧ h'.PlainList D ys ∧ h'.Ns cenv.locals m' ∧ Array.size ys = i ∧ (∀ j y, ys[j]? = some y → RR j y) ∧ i ≤ n ∧ k = n + 1 - i ∧
      (∀ b o, b ≠ cenv.locals → b ∉ wr → b ≠ D → s.heap.get? b = some o → h'.get? b = some o)) ?_ (n + 1)
    ⟨s.heap, s.toks, m, #[], 0, rfl, hst, hacc, hn, rfl, by simp, Nat.zero_le _, rfl, fun _ _ _ _ _ e => e⟩
  rintro k s' ⟨H, tk, m', ys, i, rfl, hst', hacc', hn', hys, hRR, hi, rfl, hk⟩
  by_cases hlt : i < n
  · refine W.item i _ _ _ hlt hst' fun T vals h₁ tk₁ hv hT hTu hMid hk₁ => ?_
    obtain ⟨a, b, rfl, hP⟩ := hPt i vals hv
    have hTw := W.apart _ _ _ hMid
    refine W.go _ _ _ i T _ _ _ hMid fun h₂ hst₂ hk₂ => ?_
    have hTu₂ : h₂.IsTuple T #[a, b] := by obtain ⟨o, ho, hc⟩ := hTu; exact ⟨o, hk₂ _ _ hTw ho, hc⟩
    have hn₂ : h₂.Ns cenv.locals m' := (hn'.at' fun o e => hk₁ _ o hCw e).at' fun o e => hk₂ _ o hCw e
    have up₂ : ∀ b o, b ∉ wr → H.get? b = some o → h₂.get? b = some o := fun b o hb e => hk₂ b o hb (hk₁ b o hb e)
    refine kcp_assign hh hTu₂ hx hx₂ hp hn₂ fun h₃ tk₃ hn₃ hk₃ => ?_
    have hst₃ : St (i + 1) h₃ := W.frame _ _ _ hst₂ fun b hb o e => hk₃ b o (fun h => hCf (h ▸ hb)) e
    have up₃ : ∀ b o, b ≠ cenv.locals → b ∉ wr → H.get? b = some o → h₃.get? b = some o := fun b o hC hb e => hk₃ b o hC (up₂ b o hb e)
    have helt' := helt i a b { s with heap := h₃, toks := tk₃ } _ hlt hP hn₃ (by simp [hxx]) (by simp) (fun b o hbC hbI hbD e => up₃ b o hbC hbI (hk b o hbC hbI hbD e))
    refine wpAny_mono helt' (fun y s₄ h₄ => ?_) fun _ _ e => e.elim
    obtain ⟨⟨h₄, tk₄, rfl, hk₄⟩, hRy⟩ := h₄
    have hacc₄ : h₄.PlainList D ys := hacc'.at fun o e => hk₄ _ o (up₃ D o hDC hDw e)
    refine wpAny_list_append_plain (hsz := by omega) hacc₄ fun h₅ hl₅ hs₅ => ?_
    refine ⟨n + 1 - (i + 1), by omega, h₅, tk₄, _, ys.push y, i + 1, rfl, ?_, hl₅, (hn₃.keeps hk₄).sameBut hs₅ (Ne.symm hDC), by rw [Array.size_push, hys], ?_, hlt, rfl,
      fun b o hbC hbI hbD e => hs₅.extBut b o hbD (hk₄ b o (up₃ b o hbC hbI (hk b o hbC hbI hbD e)))⟩
    · exact W.frame _ _ h₅ hst₃ fun b hb o e => hs₅.extBut b o (fun h => hDf (h ▸ hb)) (hk₄ b o e)
    · intro j z hj
      rw [Array.getElem?_push] at hj
      split at hj
      · rename_i e
        have e' : j = i := by rw [← hys]; exact e
        subst e'
        injection hj with hj; subst hj
        exact hRy
      · exact hRR j z hj
  · have hin : i = n := by omega
    refine W.done _ _ _ (hin ▸ hst') fun h₁ tk₁ hk₁ => ?_
    exact hR h₁ tk₁ m' ys (hn'.at' fun o e => hk₁ _ o hCw e) (hacc'.at fun o e => hk₁ _ o hDw e) (hys.trans hin) hRR fun b o hbC hbI hbD e => hk₁ b o hbI (hk b o hbC hbI hbD e)
end
section
variable {prog : Program} {w : World} {A : Around} {E : Value → Shared → Prop} {env : Env}
theorem compT_assign {s : Shared} {elt iter : Expr} {x x₂ y : Str} {px px₂ tp py : Pos} {kk : Nat} {scope : Scope} {cl : List (Str × Addr)} {pos spos : Pos} {Q : Flow → Shared → Prop} (RR : Nat → Value → Prop) (P : Nat → Value → Value → Prop) (hh : A.handled = none)
    (hsw : swapsWith (.ListComp elt [⟨.Tuple [.Name x px, .Name x₂ px₂] kk tp, iter, [], 0⟩] scope pos) (some (.Name y py)) spos.line env = pure true)
    (hclos : closureFor scope env = pure cl) (hcell : ∀ z ∈ scope.names, z.2 ≠ .cell) (hkind : scope.kind = .function)
    (hnames : ∀ z ∈ scope.names, z.2 = .local → scope.names.lookup z.1 = some .local) (hx : scope.names.lookup x = some .local) (hx₂ : scope.names.lookup x₂ = some .local) (hxx : x ≠ x₂)
    (hy : env.kindOf y = some .local) (hp : (env.scope.kind == .class || (env.scope.kind == .module && env.locals != env.globals)) = false)
    (h : wpAny (model prog w) A (eval iter env) (fun xv s₁ => wpAny (model prog w) A (pyIter xv) (fun it s₂ => ∃ I fp wr n Pt St Mid m, it = .ref I ∧ WalksT prog w A I fp wr n Pt St Mid ∧ n ≤ 100000 ∧ (∀ i vals, Pt i vals → ∃ a b, vals = #[a, b] ∧ P i a b) ∧ St 0 s₂.heap ∧ (∀ b ∈ fp, b < s₂.heap.objs.size) ∧ env.locals ∉ wr ∧ s₂.heap.Ns env.locals m ∧
      (∀ C i v v₂ s₃ m₃, s₂.heap.objs.size ≤ C → i < n → P i v v₂ → s₃.heap.Ns C m₃ → m₃ x = some v → m₃ x₂ = some v₂ → (∀ b o, b ∉ wr → s₂.heap.get? b = some o → s₃.heap.get? b = some o) →
        wpAny (model prog w) A (eval elt (compEnvC scope cl C env)) (fun y s₄ => Keeps s₃ s₄ ∧ RR i y) (fun _ _ => False) s₃) ∧
      (∀ D h' tk ys, s₂.heap.get? D = none → h'.IsList D ys → ys.size = n → (∀ i y, ys[i]? = some y → RR i y) → h'.Ns env.locals (fun z => if z = y then some (.ref D) else m z) →
        (∀ b o, b ≠ env.locals → b ∉ wr → s₂.heap.get? b = some o → h'.get? b = some o) → Q .next { s₂ with heap := h', toks := tk })) E s₁) E s)
    (hs : ∀ x, foldedSetIterable iter env x = pure x := by intro _; rfl) :
    wpAny (model prog w) A (exec (.Assign [.Name y py] (.ListComp elt [⟨.Tuple [.Name x px, .Name x₂ px₂] kk tp, iter, [], 0⟩] scope pos) spos) env) Q E s := by
  rw [exec_Assign_Name_used _ _ _ _ hsw]
  refine wpAny_bind (wpAny_standAt (wpAny_bind ?_))
  show wpAny _ A (do let _ ← comprehension (.ListComp elt [⟨.Tuple [.Name x px, .Name x₂ px₂] kk tp, iter, [], 0⟩] scope pos) scope env _ (newList []) false (eval iter env) (some (assign (.Name y py) env))) _ _ s
  refine wpAny_bind (wpAny_mono (wpAny_comprehension_free (use := some (assign (.Name y py) env)) (Q := fun _ s' => Q .next s') rfl hs hclos hkind hnames
    (wpAny_mono h (fun xv s₁ h₁ => wpAny_mono h₁ (fun it s₂ h₂ => ?_) fun _ _ e => e) fun _ _ e => e)) (fun _ s' hq => wpAny_pure (wpAny_pure hq)) fun _ _ e => e)
  obtain ⟨I, fp, wr, n, Pt, St, Mid, m, rfl, W, hsz, hPt, hst, hfp, hLI, hn, helt, hQ⟩ := h₂
  refine wpAny_newObj_type (wpAny_newFunctionEnv hcell (by intro y hy; simp at hy) (fun h₁ hns₁ hsb₁ => ?_) hkind)
  dsimp only at hns₁ hsb₁ ⊢
  generalize hH2 : s₂.heap.push { cls := .type "list", dict := none, data := .seq ([] : List Value).toArray } = H2 at hns₁ hsb₁ ⊢
  have hC : H2.objs.size = s₂.heap.objs.size + 1 := by rw [← hH2, Heap.size_push]
  have hDC : s₂.heap.objs.size ≠ H2.objs.size := by rw [hC]; exact Nat.ne_of_lt (Nat.lt_succ_self _)
  have hCle : s₂.heap.objs.size ≤ H2.objs.size := by rw [hC]; exact Nat.le_succ _
  have below : ∀ b, b < s₂.heap.objs.size → b ≠ H2.objs.size ∧ b ≠ s₂.heap.objs.size := fun b hb => ⟨by rw [hC]; exact Nat.ne_of_lt (Nat.lt_succ_of_lt hb), Nat.ne_of_lt hb⟩
  have hDf : s₂.heap.objs.size ∉ fp := fun hm => Nat.lt_irrefl _ (hfp _ hm)
  have hCf : H2.objs.size ∉ fp := fun hm => by have := hfp _ hm; rw [hC] at this; exact Nat.lt_irrefl _ (Nat.lt_of_succ_lt this)
  have old : ∀ b o, s₂.heap.get? b = some o → h₁.get? b = some o := fun b o e => hsb₁.extBut b o (below b (Heap.lt_size e)).1 (Heap.get?_push_of_some _ (hH2 ▸ Heap.get?_push_of_some _ e))
  have hacc : h₁.PlainList s₂.heap.objs.size #[] := ⟨_, hsb₁.extBut _ _ hDC (Heap.get?_push_of_some _ (hH2 ▸ Heap.get?_push_size _ rfl))⟩
  have hst₁ : St 0 h₁ := W.frame _ _ _ hst fun b _ o e => old b o e
  have fresh : ∀ a, s₂.heap.objs.size ≤ a → s₂.heap.get? a = none := fun a ha => by
    cases e : s₂.heap.get? a with
    | none => rfl
    | some o' => exact absurd (Heap.lt_size e) (Nat.not_lt.mpr ha)
  have loop : ∀ s₃ : Shared, s₃ = { s₂ with heap := h₁, toks := s₂.toks + ([] : List (Str × Value)).length } →
      codeAny (model prog w) A (.compLoop (.ListComp elt [⟨.Tuple [.Name x px, .Name x₂ px₂] kk tp, iter, [], 0⟩] scope pos) 0 (.ref I) (.ref s₂.heap.objs.size) (compEnvC scope cl H2.objs.size env))
        (compPost (model prog w) A E (some (assign (.Name y py) env)) (fun _ s' => Q .next s') (.ref s₂.heap.objs.size) H2.objs.size) s₃ := by
    rintro s₃ rfl
    refine compT_loop (cenv := compEnvC scope cl H2.objs.size env) W RR hPt hh (lookup_relabel_local hx) (lookup_relabel_local hx₂) hxx (by simp [compEnvC, relabel, hkind]) hDC hDf hCf hst₁ hacc hns₁
      (fun i v v₂ s₃ m₃ hi hv hn hm hm₂ hk => helt _ i v v₂ s₃ m₃ hCle hi hv hn hm hm₂ (fun b o hbI e => hk b o (below b (Heap.lt_size e)).1 hbI (below b (Heap.lt_size e)).2 (old b o e))) (fun h' tk m' ys hnC hpl hlen hRR hk => ?_) hsz
    have hD := fresh _ (Nat.le_refl s₂.heap.objs.size)
    have hCn := fresh H2.objs.size hCle
    have hk' : ∀ b o, b ∉ wr → s₂.heap.get? b = some o → h'.get? b = some o := fun b o hbI e =>
      hk b o (below b (Heap.lt_size e)).1 hbI (below b (Heap.lt_size e)).2 (old b o e)
    have hLC : env.locals ≠ H2.objs.size := by rintro e; obtain ⟨o, _, _, ho, _⟩ := hn; rw [e, hCn] at ho; cases ho
    have hLD : env.locals ≠ s₂.heap.objs.size := by rintro e; obtain ⟨o, _, _, ho, _⟩ := hn; rw [e, hD] at ho; cases ho
    show wpAny _ A (assign (.Name y py) env (.ref s₂.heap.objs.size)) _ _ _
    refine wpAny_assign_Name (wpAny_storeName_local hy (hn.at' fun o e => hk' _ o hLI e) (fun h₂ hn₂ hs₂ => ?_) hp)
    refine ⟨m', hnC.sameBut hs₂ (Ne.symm hLC), fun h₃ hs₃ => ?_⟩
    exact hQ _ h₃ _ ys hD ((hpl.isList.extBut hs₂.extBut (Ne.symm hLD)).extBut hs₃.extBut hDC) hlen hRR (hn₂.sameBut hs₃ hLC) fun b o hbL hbI e =>
      hs₃.extBut b o (fun q => by rw [q, hCn] at e; cases e) (hs₂.extBut b o hbL (hk' b o hbI e))
  exact codeAny_compStart_list (loop _ rfl) (W.self 0 _ _ _ hst₁ (loop _ rfl))
end
theorem enum_go {prog : Program} {w : World} {A : Around} {E : Value → Shared → Prop} {s : Shared} {l : Addr} {items : Array Value} {Q : Value → Shared → Prop} (hh : A.handled = none) (hl : s.heap.IsList l items)
    (h : ∀ h₂ I fp wr St Mid, WalksT prog w A I fp wr items.size (fun i vals => ∃ t x, items[i]? = some x ∧ vals = #[.int i t, x]) St Mid → St 0 h₂ → (∀ b ∈ fp, b < h₂.objs.size) → (∀ b ∈ wr, s.heap.objs.size ≤ b) → (∀ b o, s.heap.get? b = some o → h₂.get? b = some o) → s.heap.objs.size ≤ h₂.objs.size → Q (.ref I) { s with heap := h₂ }) :
    wpAny (model prog w) A (call (.type "enumerate") [.ref l]) (fun xv s₁ => wpAny (model prog w) A (pyIter xv) Q E s₁) E s := by
  refine call_enumerate_list hl fun h₂ hE hI hsz2 hk2 => ?_
  have hlt : l < s.heap.objs.size := by obtain ⟨o, ho, _⟩ := hl; exact Heap.lt_size ho
  have W := WalksT.enumerate (prog := prog) (w := w) (A := A) hh (s.heap.objs.size + 1) s.heap.objs.size l (Nat.ne_of_gt (Nat.lt_succ_self _)) (Nat.ne_of_lt (Nat.lt_succ_of_lt hlt)) (Nat.ne_of_lt hlt) items
  have hl2 : h₂.IsList l items := by obtain ⟨o, ho, hc⟩ := hl; exact ⟨o, hk2 _ _ ho, hc⟩
  have hst0 := And.intro (Exists.intro Value.none hE) (And.intro hI hl2)
  refine W.self 0 { s with heap := h₂ } _ _ hst0 ?_
  refine h h₂ _ _ _ _ _ W hst0 ?_ ?_ hk2 (by rw [hsz2]; exact Nat.le_add_right _ _)
  · intro b hb
    rw [hsz2]
    simp only [List.mem_cons, List.not_mem_nil, or_false] at hb
    rcases hb with rfl | rfl | rfl
    · exact Nat.lt_succ_self _
    · exact Nat.lt_succ_of_lt (Nat.lt_succ_self _)
    · exact Nat.lt_succ_of_lt (Nat.lt_succ_of_lt hlt)
  · intro b hb
    simp only [List.mem_cons, List.not_mem_nil, or_false] at hb
    rcases hb with rfl | rfl
    · exact Nat.le_succ _
    · exact Nat.le_refl _
theorem kept_wr {h h₂ h₃ : Heap} {wr : List Addr} (hw : ∀ b ∈ wr, h.objs.size ≤ b) (k : ∀ b o, h.get? b = some o → h₂.get? b = some o) (k3 : ∀ b o, b ∉ wr → h₂.get? b = some o → h₃.get? b = some o) : ∀ b o, h.get? b = some o → h₃.get? b = some o :=
  fun b o e => k3 b o (fun hm => absurd (hw b hm) (Nat.not_le.mpr (Heap.lt_size e))) (k b o e)
theorem after_compW {h₀ H h₂ h' : Heap} {L D : Addr} {wr : List Addr} {l : List (Str × Option Value)} {news : List (Addr × Obj)} {y : Str} {v : Value} {ys : List Value} (F : Fr h₀ L H (mp l)) (N : News h₀ L H news)
    (hw : ∀ b ∈ wr, H.objs.size ≤ b) (k : ∀ b o, H.get? b = some o → h₂.get? b = some o)
    (hns : h'.Ns L (fun z => if z = y then some v else mp l z)) (hk : ∀ b o, b ≠ L → b ∉ wr → h₂.get? b = some o → h'.get? b = some o) (hD : h₂.get? D = none) (hl : h'.IsList D ys.toArray) :
    Fr h₀ L h' (mp (up y v l)) ∧ (∃ oD, (oD.cls = .type "list" ∧ ∃ n, oD.data = .seq ys.toArray n) ∧ News h₀ L h' ((D, oD) :: news)) ∧ (∀ b o, b ≠ L → H.get? b = some o → h'.get? b = some o) ∧ H.get? D = none := by
  have hkk : ∀ b o, b ≠ L → H.get? b = some o → h'.get? b = some o := fun b o hb e => hk b o hb (fun hm => absurd (hw b hm) (Nat.not_le.mpr (Heap.lt_size e))) (k b o e)
  have hHD : H.get? D = none := by
    cases q : H.get? D with
    | none => rfl
    | some o => rw [k _ _ q] at hD; cases hD
  refine ⟨Fr.up ⟨hns, fun b o e => hkk b o (Nat.ne_of_lt (Nat.lt_of_lt_of_le (Heap.lt_size e) F.above)) (F.keep b o e), F.above⟩, news_list (fun p hp => ⟨hkk _ _ (N p hp).2.1 (N p hp).1, (N p hp).2⟩) hl ?_ ?_, hkk, hHD⟩
  · rintro rfl
    obtain ⟨o, _, _, ho, _⟩ := F.ns
    rw [hHD] at ho; cases ho
  · cases q : h₀.get? D with
    | none => rfl
    | some o => rw [F.keep _ _ q] at hHD; cases hHD
theorem ints_all : ∀ {vs : List Value}, (∀ v ∈ vs, ∃ n t, v = Value.int n t) → ∃ ns, IntsAre vs ns
  | [], _ => ⟨[], .nil⟩
  | v :: vs, h => by
    obtain ⟨n, t, rfl⟩ := h v (.head _)
    obtain ⟨ns, hn⟩ := ints_all (vs := vs) fun v hv => h v (.tail _ hv)
    exact ⟨n :: ns, .cons n t hn⟩
theorem ints_mem {vs : List Value} {ns : List Int} (h : IntsAre vs ns) : ∀ v ∈ vs, ∃ n t, v = Value.int n t := by
  induction h with
  | nil => intro v hv; cases hv
  | cons n t _ ih =>
    intro v hv
    rcases List.mem_cons.mp hv with rfl | hv
    · exact ⟨n, t, rfl⟩
    · exact ih v hv
theorem pick_ints {vs : List Value} {ns : List Int} {lo hi st : Option Int} (h : IntsAre vs ns) : ∃ ms, IntsAre (slicePick vs.toArray lo hi st).toList ms := by
  refine ints_all fun v hv => ?_
  unfold slicePick at hv
  rw [List.mem_filterMap] at hv
  obtain ⟨i, _, hi⟩ := hv
  exact ints_mem h v (List.mem_of_getElem? (by simpa using hi))
section
variable {prog : Program} {w : World} {A : Around} {E : Value → Shared → Prop} {s : Shared}
/-- the sum of a picked slice of ints -/
theorem sumPick {value slice : Expr} {l : Addr} {vs : List Value} {ns : List Int} {vl vu vk : Value} {lo hi st : Option Int} {ops : List Value} {Q : Value → Shared → Prop} (hn : IntsAre vs ns)
    (hl : s.heap.IsList l vs.toArray) (pl : IsPart vl lo) (pu : IsPart vu hi) (pk : IsPart vk st) (h0 : st ≠ some 0) (hsz : vs.length ≤ 1000)
    (h : ∀ h' D ws ms, (∀ b o, s.heap.get? b = some o → h'.get? b = some o) → h'.IsList D (List.toArray ws) → IntsAre ws ms → Q (.ref D) { s with heap := h' })
    (hs : subscripted slice false (.ref l) (.ref s.heap.objs.size) = operate ops (getItem (.ref l) (.ref s.heap.objs.size)) := by with_unfolding_all rfl)
    (ht : ∀ r, letTemporaryGo value (.ref l) r = pure () := by intro _; with_unfolding_all rfl) :
    wpAny (model prog w) A (subscriptTail value slice (.ref l) (.ref s.heap.objs.size)) Q E { s with heap := s.heap.push { cls := .type "slice", data := .fields #[vl, vu, vk] } } := by
  obtain ⟨ms, hms⟩ := pick_ints (lo := lo) (hi := hi) (st := st) hn
  have hsl : sizeLine = 16777216 := rfl
  refine subscriptTail_ops (Heap.IsList.typeIs (s := { s with heap := s.heap.push { cls := .type "slice", data := .fields #[vl, vu, vk] } }) (hl.push _)) list_getitem_lookup
    (wpAny_getItem_list_slice (hl.push _) (Heap.IsSliceOf.new ..) pl pu pk h0 ?_ (by rw [List.size_toArray]; omega)) hs ht
  show Q (.ref (s.heap.push _).objs.size) _
  exact h _ _ (slicePick vs.toArray lo hi st).toList ms (fun b o e => Heap.get?_push_of_some _ (Heap.get?_push_of_some _ e)) ⟨_, Heap.get?_push_size _ rfl, rfl, _, rfl⟩ hms
theorem sumK {l : Addr} {vs : List Value} {ns : List Int} {Q : Value → Shared → Prop} (hh : A.handled = none) (hl : s.heap.IsList l vs.toArray) (hi : IntsAre vs ns)
    (h : ∀ h' tk t', (∀ b o, s.heap.get? b = some o → h'.get? b = some o) → Q (.int ns.sum t') { s with heap := h', toks := tk }) : wpAny (model prog w) A (call (.builtin "sum") [.ref l]) Q E s := by
  obtain ⟨xs, hx⟩ := hi.allInts.items
  have hl' : s.heap.IsList l (intItems xs) := hx ▸ hl
  refine sum_intListG hh hl' fun h' tk t' hk => ?_
  have e1 : ns = xs.toList.map (·.1) := by
    rw [← nums_intItems, ← hx]
    exact (show numsOf vs.toArray.toList = ns from hi.numsOf).symm
  have e2 : preSum (numAt xs) xs.size = ns.sum := by
    rw [preSum_eq, List.take_of_length_le (by simp), e1]
  rw [e2]
  exact h h' tk t' hk
end
end

/-! ## part CompN -/
section
open PySem PySem.W PyProof.Rows PySem.Calls
theorem compTurn2_1 (elt : Expr) (g : Comprehension) (target iter : Expr) (scope : Scope) (pos : Pos) (it acc : Value) (env : Env) :
    compTurn (.ListComp elt [g, ⟨target, iter, [], 0⟩] scope pos) 1 it acc env = (do
      standAt iter.pos
      match ← pyNext it with
      | none => pure (.done .next)
      | some v =>
        letOwnedTupleGo target it v
        assign target env v
        let mut ok := true
        for c in ([] : List Expr) do
          if ok then ok ← isTrue c env (eval c env)
        if ok then
          (do let _ ← call (.builtin "list.append") [acc, ← eval elt env])
        again (.compLoop (.ListComp elt [g, ⟨target, iter, [], 0⟩] scope pos) 1 it acc env)) := by rfl
theorem compTurn2_0 (elt target iter target' iter' : Expr) (scope : Scope) (pos : Pos) (it acc : Value) (env : Env) :
    compTurn (.ListComp elt [⟨target, iter, [], 0⟩, ⟨target', iter', [], 0⟩] scope pos) 0 it acc env = (do
      standAt iter.pos
      match ← pyNext it with
      | none => pure (.done .next)
      | some v =>
        letOwnedTupleGo target it v
        assign target env v
        let mut ok := true
        for c in ([] : List Expr) do
          if ok then ok ← isTrue c env (eval c env)
        if ok then
          match ([⟨target, iter, [], 0⟩, ⟨target', iter', [], 0⟩] : List Comprehension)[0 + 1]? with
          | some g' =>
            let x ← eval g'.iter env
            standAt g'.iter.pos
            let x ← if g'.is_async != 0 then foldedIterable g'.iter x else foldedSetIterable g'.iter env x
            let _ ← runOwn (.compStart (.ListComp elt [⟨target, iter, [], 0⟩, ⟨target', iter', [], 0⟩] scope pos) 1 (← holding [x] (if g'.is_async != 0 then asyncIter x else pyIter x)) acc env) env
          | none => (do let _ ← call (.builtin "list.append") [acc, ← eval elt env])
        again (.compLoop (.ListComp elt [⟨target, iter, [], 0⟩, ⟨target', iter', [], 0⟩] scope pos) 0 it acc env)) := by rfl
section
variable {prog : Program} {w : World} {A : Around} {E : Value → Shared → Prop} {R : Result → Shared → Prop} {s : Shared}
theorem loop2_1 {elt target iter : Expr} {g : Comprehension} {scope : Scope} {pos : Pos} {it acc : Value} {env : Env} (I : Nat → Shared → Prop)
    (turn : ∀ n s, I n s → wpAny (model prog w) A (pyNext it) (fun r s₁ => match r with
      | none => R (.ok .next) s₁
      | some v => wpAny (model prog w) A (assign target env v) (fun _ s₂ =>
          wpAny (model prog w) A (eval elt env) (fun x s₄ =>
              wpAny (model prog w) A (call (.builtin "list.append") [acc, x]) (fun _ s₅ => ∃ m, m < n ∧ I m s₅) (notedBy (model prog w) A env fun e s' => R (.error e) s') s₄) (notedBy (model prog w) A env fun e s' => R (.error e) s') s₂) (notedBy (model prog w) A env fun e s' => R (.error e) s') s₁) (notedBy (model prog w) A env fun e s' => R (.error e) s') s)
    (n : Nat) (h : I n s) (ht : ∀ v, letOwnedTupleGo target it v = pure () := by intro _; rfl) :
    codeAny (model prog w) A (.compLoop (.ListComp elt [g, ⟨target, iter, [], 0⟩] scope pos) 1 it acc env) R s := by
  refine codeAny_loop rfl I (fun n s hI => ?_) n h
  show wpAny _ A ((compTurn (.ListComp elt [g, ⟨target, iter, [], 0⟩] scope pos) 1 it acc env).onRaise (fun x => do noteFrame x env; theTreesLotGoes x)) _ _ s
  refine wpAny_noted ?_
  rw [compTurn2_1]
  refine wpAny_bind (wpAny_standAt (wpAny_bind (wpAny_mono (turn n s hI) (fun r s₁ h₁ => ?_) fun _ _ h' => h')))
  cases r with
  | none => exact wpAny_pure h₁
  | some v =>
    refine wpAny_bind (wpAny_of_eq (ht v) ?_)
    refine wpAny_bind (wpAny_mono h₁ (fun _ s₂ h₂ => ?_) fun _ _ h' => h')
    refine wpAny_bind (wpAny_tests_nil ?_)
    exact wpAny_bind (wpAny_bind (wpAny_mono h₂ (fun x s₄ h₄ => wpAny_bind (wpAny_mono h₄ (fun _ s₅ h₅ => wpAny_pure (wpAny_pure ⟨rfl, h₅⟩)) fun _ _ h' => h')) fun _ _ h' => h'))
theorem start2_1 {elt target iter : Expr} {g : Comprehension} {scope : Scope} {pos : Pos} {it acc : Value} {env : Env}
    (h0 : codeAny (model prog w) A (.compLoop (.ListComp elt [g, ⟨target, iter, [], 0⟩] scope pos) 1 it acc env) R s)
    (h : wpAny (model prog w) A (pyIter it) (fun it' s' => codeAny (model prog w) A (.compLoop (.ListComp elt [g, ⟨target, iter, [], 0⟩] scope pos) 1 it' acc env) R s')
      (notedBy (model prog w) A env fun x s' => R (.error x) s') s) :
    codeAny (model prog w) A (.compStart (.ListComp elt [g, ⟨target, iter, [], 0⟩] scope pos) 1 it acc env) R s := by
  refine codeAny_of_tree ?_
  show wpAny _ _ ((compStart (.ListComp elt [g, ⟨target, iter, [], 0⟩] scope pos) 1 it acc env).onRaise (fun x => do noteFrame x env; standAt theWindowsPlace)) _ _ s
  refine wpAny_notedAt ?_
  unfold compStart
  show wpAny _ _ (ask >>= _) _ _ s
  refine wpAny_bind (wpAny_askSetting (wpAny_ite ?_))
  split
  · first
      | exact wpAny_bind (wpAny_pure (wpAny_pure (And.intro rfl h0)))
      | exact wpAny_pure (And.intro rfl h0)
  · first
      | exact wpAny_bind (wpAny_rule (wpAny_bind (wpAny_standAt (wpAny_bind (wpAny_mono h (fun it' s' h' => wpAny_pure (And.intro rfl h')) fun _ _ x => x)))))
      | exact (wpAny_rule (wpAny_bind (wpAny_standAt (wpAny_bind (wpAny_mono h (fun it' s' h' => wpAny_pure (And.intro rfl h')) fun _ _ x => x)))))
      | exact wpAny_bind (wpAny_rule (wpAny_standAt (wpAny_bind (wpAny_mono h (fun it' s' h' => wpAny_pure (And.intro rfl h')) fun _ _ x => x))))
theorem loop2_0 {elt target iter target' iter' : Expr} {scope : Scope} {pos : Pos} {it acc : Value} {env : Env} (I : Nat → Shared → Prop)
    (turn : ∀ n s, I n s → wpAny (model prog w) A (pyNext it) (fun r s₁ => match r with
      | none => R (.ok .next) s₁
      | some v => wpAny (model prog w) A (assign target env v) (fun _ s₂ =>
          wpAny (model prog w) A (eval iter' env) (fun x s₃ => wpAny (model prog w) A (pyIter x) (fun j s₄ =>
              codeAny (model prog w) A (.compStart (.ListComp elt [⟨target, iter, [], 0⟩, ⟨target', iter', [], 0⟩] scope pos) 1 j acc env) (fun r s' => match r with | .ok _ => ∃ m, m < n ∧ I m s' | .error _ => False) s₄) (fun _ _ => False) s₃) (fun _ _ => False) s₂) (fun _ _ => False) s₁) (fun _ _ => False) s)
    (n : Nat) (h : I n s) (ht : ∀ v, letOwnedTupleGo target it v = pure () := by intro _; rfl) (hs : ∀ x, foldedSetIterable iter' env x = pure x := by intro _; rfl) :
    codeAny (model prog w) A (.compLoop (.ListComp elt [⟨target, iter, [], 0⟩, ⟨target', iter', [], 0⟩] scope pos) 0 it acc env) R s := by
  refine codeAny_loop rfl I (fun n s hI => ?_) n h
  show wpAny _ A ((compTurn (.ListComp elt [⟨target, iter, [], 0⟩, ⟨target', iter', [], 0⟩] scope pos) 0 it acc env).onRaise (fun x => do noteFrame x env; theTreesLotGoes x)) _ _ s
  refine wpAny_noted ?_
  rw [compTurn2_0]
  refine wpAny_bind (wpAny_standAt (wpAny_bind (wpAny_mono (turn n s hI) (fun r s₁ h₁ => ?_) fun _ _ h' => h'.elim)))
  cases r with
  | none => exact wpAny_pure h₁
  | some v =>
    refine wpAny_bind (wpAny_of_eq (ht v) ?_)
    refine wpAny_bind (wpAny_mono h₁ (fun _ s₂ h₂ => ?_) fun _ _ h' => h'.elim)
    refine wpAny_bind (wpAny_tests_nil ?_)
    refine wpAny_bind (wpAny_mono h₂ (fun x s₃ h₃ => ?_) fun _ _ h' => h'.elim)
    refine wpAny_bind (wpAny_standAt (wpAny_bind (wpAny_of_eq (hs x) (wpAny_bind (wpAny_holding (wpAny_mono h₃ (fun j s₄ h₄ => ?_) fun _ _ h' => h'.elim))))))
    refine wpAny_bind (wpAny_runOwn (codeAny_mono h₄ fun r s' hr => ?_))
    cases r with
    | ok f => exact wpAny_pure ⟨rfl, hr⟩
    | error e => exact hr.elim
end
section
variable {prog : Program} {w : World} {A : Around} {s : Shared}
theorem inner2 {elt iter' : Expr} {g : Comprehension} {x x' : Str} {px' : Pos} {scope : Scope} {pos : Pos} {J D Y : Addr} {us : List Value} {cenv : Env} {m : Str → Option Value} {v : Value} {R : Result → Shared → Prop} {ys₀ : Array Value}
    (hh : A.handled = none) (G : Nat → Array Value → Prop) (hsz : ∀ j ys, G j ys → ys.size ≤ 100000)
    (hx : cenv.kindOf x' = some .local) (hxx : x ≠ x') (hp : (cenv.scope.kind == .class || (cenv.scope.kind == .module && cenv.locals != cenv.globals)) = false)
    (hDC : D ≠ cenv.locals) (hDJ : D ≠ J) (hCJ : cenv.locals ≠ J) (hYJ : Y ≠ J) (hYC : Y ≠ cenv.locals) (hYD : Y ≠ D)
    (hit : s.heap.IsListIter J Y 0) (hY : s.heap.IsList Y us.toArray) (hacc : s.heap.PlainList D ys₀) (hn : s.heap.Ns cenv.locals m) (hmx : m x = some v) (hG : G 0 ys₀)
    (helt : ∀ j u ys s₂ m₂, us[j]? = some u → G j ys → s₂.heap.Ns cenv.locals m₂ → m₂ x = some v → m₂ x' = some u → (∀ b o, b ≠ cenv.locals → b ≠ J → b ≠ D → s.heap.get? b = some o → s₂.heap.get? b = some o) →
      wpAny (model prog w) A (eval elt cenv) (fun z s₃ => Keeps s₂ s₃ ∧ G (j + 1) (ys.push z)) (fun _ _ => False) s₂)
    (hR : ∀ h' tk m' ys, h'.Ns cenv.locals m' → h'.PlainList D ys → G us.length ys → (∀ b o, b ≠ cenv.locals → b ≠ J → b ≠ D → s.heap.get? b = some o → h'.get? b = some o) → R (.ok .next) { s with heap := h', toks := tk }) :
    codeAny (model prog w) A (.compLoop (.ListComp elt [g, ⟨.Name x' px', iter', [], 0⟩] scope pos) 1 (.ref J) (.ref D) cenv) R s := by
  have hsl : sizeLine = 16777216 := rfl
  have W := Itr.list (prog := prog) (w := w) (A := A) hh J Y hYJ us
  refine loop2_1
    (fun k s' => ∃ h' tk m' ys j, s' = { s with heap := h', toks := tk } ∧ (h'.IsListIter J Y j ∧ h'.IsList Y us.toArray) ∧ h'.PlainList D ys ∧ h'.Ns cenv.locals m' ∧ m' x = some v ∧ G j ys ∧ j ≤ us.length ∧ k = us.length + 1 - j ∧
      (∀ b o, b ≠ cenv.locals → b ≠ J → b ≠ D → s.heap.get? b = some o → h'.get? b = some o)) ?_ (us.length + 1)
    ⟨s.heap, s.toks, m, ys₀, 0, rfl, ⟨hit, hY⟩, hacc, hn, hmx, hG, Nat.zero_le _, rfl, fun _ _ _ _ _ e => e⟩
  rintro k s' ⟨H, tk, m', ys, i, rfl, hst', hacc', hn', hmx', hG', hi, rfl, hk⟩
  by_cases hlt : i < us.length
  · refine W.item i _ _ _ hlt hst' fun u h₁ tk₁ hP htk₁ hst₁ hk₁ => ?_
    refine wpAny_assign_Name (wpAny_storeName_local hx (hn'.at' fun o e => hk₁ _ o hCJ e) (fun h₂ hn₂ hs₂ => ?_) hp)
    have up₂ : ∀ b o, b ≠ cenv.locals → b ≠ J → H.get? b = some o → h₂.get? b = some o := fun b o hbC hbI e => hs₂.extBut b o hbC (hk₁ b o hbI e)
    have hst₂ : h₂.IsListIter J Y (i + 1) ∧ h₂.IsList Y us.toArray := W.frame _ _ _ hst₁ fun b hb o e => hs₂.extBut b o (fun h => by
      rcases List.mem_cons.mp hb with rfl | hb
      · exact hCJ h.symm
      · exact hYC ((List.mem_singleton.mp hb) ▸ h)) e
    have helt' := helt i u ys { s with heap := h₂, toks := tk₁ + 1 } _ hP hG' hn₂ (by show (if x = x' then _ else m' x) = _; rw [if_neg hxx]; exact hmx') (by simp) (fun b o hbC hbI hbD e => up₂ b o hbC hbI (hk b o hbC hbI hbD e))
    refine wpAny_mono helt' (fun z s₄ h₄ => ?_) fun _ _ e => e.elim
    obtain ⟨⟨h₄, tk₄, rfl, hk₄⟩, hGz⟩ := h₄
    have hacc₄ : h₄.PlainList D ys := hacc'.at fun o e => hk₄ _ o (up₂ D o hDC hDJ e)
    have hys := hsz _ _ hG'
    refine wpAny_list_append_plain (hsz := by omega) hacc₄ fun h₅ hl₅ hs₅ => ?_
    refine ⟨us.length + 1 - (i + 1), by omega, h₅, tk₄, _, ys.push z, i + 1, rfl, ?_, hl₅, (hn₂.keeps hk₄).sameBut hs₅ (Ne.symm hDC), (by show (if x = x' then _ else m' x) = _; rw [if_neg hxx]; exact hmx'), hGz, hlt, rfl,
      fun b o hbC hbI hbD e => hs₅.extBut b o hbD (hk₄ b o (up₂ b o hbC hbI (hk b o hbC hbI hbD e)))⟩
    exact W.frame _ _ h₅ hst₂ fun b hb o e => hs₅.extBut b o (fun h => by
      rcases List.mem_cons.mp hb with rfl | hb
      · exact hDJ h.symm
      · exact hYD ((List.mem_singleton.mp hb) ▸ h)) (hk₄ b o e)
  · have hin : i = us.length := by omega
    refine W.done _ _ _ (hin ▸ hst') fun h₁ hk₁ => ?_
    exact hR h₁ tk m' ys (hn'.at' fun o e => hk₁ _ o hCJ e) (hacc'.at fun o e => hk₁ _ o hDJ e) (hin ▸ hG') fun b o hbC hbI hbD e => hk₁ b o hbI (hk b o hbC hbI hbD e)
theorem outer2 {elt iter iter' : Expr} {x x' : Str} {px px' : Pos} {scope : Scope} {pos : Pos} {I D Y : Addr} {fp : List Addr} {n : Nat} {St : Nat → Heap → Prop} {P : Nat → Value → Nat → Prop} {us : List Value} {cenv : Env} {m : Str → Option Value} {R : Result → Shared → Prop}
    (hh : A.handled = none) (W : Itr prog w A I fp n St P) (G : Nat → Nat → Array Value → Prop) (hsz : ∀ i j ys, G i j ys → ys.size ≤ 100000) (hG : G 0 0 #[]) (hnext : ∀ i ys, i < n → G i us.length ys → G (i + 1) 0 ys)
    (hx : cenv.kindOf x = some .local) (hx' : cenv.kindOf x' = some .local) (hxx : x ≠ x') (hp : (cenv.scope.kind == .class || (cenv.scope.kind == .module && cenv.locals != cenv.globals)) = false)
    (hDC : D ≠ cenv.locals) (hDf : D ∉ fp) (hCf : cenv.locals ∉ fp) (hYI : Y ≠ I) (hYC : Y ≠ cenv.locals) (hYD : Y ≠ D) (hst : St 0 s.heap) (hY : s.heap.IsList Y us.toArray) (hacc : s.heap.PlainList D #[]) (hn : s.heap.Ns cenv.locals m)
    (hiter : ∀ s₂ m₂, s₂.heap.Ns cenv.locals m₂ → (∀ b o, b ≠ cenv.locals → b ≠ I → b ≠ D → s.heap.get? b = some o → s₂.heap.get? b = some o) →
      wpAny (model prog w) A (eval iter' cenv) (fun z s₃ => Keeps s₂ s₃ ∧ z = .ref Y) (fun _ _ => False) s₂)
    (helt : ∀ i j v u t ys s₂ m₂, i < n → P i v t → us[j]? = some u → G i j ys → s₂.heap.Ns cenv.locals m₂ → m₂ x = some v → m₂ x' = some u → (∀ b o, b ≠ cenv.locals → b ≠ I → b ≠ D → s.heap.get? b = some o → s₂.heap.get? b = some o) →
      wpAny (model prog w) A (eval elt cenv) (fun z s₃ => Keeps s₂ s₃ ∧ G i (j + 1) (ys.push z)) (fun _ _ => False) s₂)
    (hR : ∀ h' tk m' ys, h'.Ns cenv.locals m' → h'.PlainList D ys → G n 0 ys → (∀ b o, b ≠ cenv.locals → b ≠ I → b ≠ D → s.heap.get? b = some o → h'.get? b = some o) → R (.ok .next) { s with heap := h', toks := tk })
    (hs : ∀ x, foldedSetIterable iter' cenv x = pure x) :
    codeAny (model prog w) A (.compLoop (.ListComp elt [⟨.Name x px, iter, [], 0⟩, ⟨.Name x' px', iter', [], 0⟩] scope pos) 0 (.ref I) (.ref D) cenv) R s := by
  have hCI : cenv.locals ≠ I := fun e => hCf (e ▸ W.mem)
  have hDI : D ≠ I := fun e => hDf (e ▸ W.mem)
  have hDl : D < s.heap.objs.size := by obtain ⟨o, ho⟩ := hacc; exact Heap.lt_size ho
  refine loop2_0 (hs := hs)
    (fun k s' => ∃ h' tk m' ys i, s' = { s with heap := h', toks := tk } ∧ St i h' ∧ h'.PlainList D ys ∧ h'.Ns cenv.locals m' ∧ G i 0 ys ∧ i ≤ n ∧ k = n + 1 - i ∧
      (∀ b o, b ≠ cenv.locals → b ≠ I → b ≠ D → s.heap.get? b = some o → h'.get? b = some o)) ?_ (n + 1)
    ⟨s.heap, s.toks, m, #[], 0, rfl, hst, hacc, hn, hG, Nat.zero_le _, rfl, fun _ _ _ _ _ e => e⟩
  rintro k s' ⟨H, tk, m', ys, i, rfl, hst', hacc', hn', hG', hi, rfl, hk⟩
  by_cases hlt : i < n
  · refine W.item i _ _ _ hlt hst' fun v h₁ tk₁ hP htk₁ hst₁ hk₁ => ?_
    refine wpAny_assign_Name (wpAny_storeName_local hx (hn'.at' fun o e => hk₁ _ o hCI e) (fun h₂ hn₂ hs₂ => ?_) hp)
    have up₂ : ∀ b o, b ≠ cenv.locals → b ≠ I → H.get? b = some o → h₂.get? b = some o := fun b o hbC hbI e => hs₂.extBut b o hbC (hk₁ b o hbI e)
    have hst₂ : St (i + 1) h₂ := W.frame _ _ _ hst₁ fun b hb o e => hs₂.extBut b o (fun h => hCf (h ▸ hb)) e
    refine wpAny_mono (hiter { s with heap := h₂, toks := tk₁ + 1 } _ hn₂ fun b o hbC hbI hbD e => up₂ b o hbC hbI (hk b o hbC hbI hbD e)) (fun z s₃ h₃ => ?_) fun _ _ e => e.elim
    obtain ⟨⟨h₃, tk₃, rfl, hk₃⟩, rfl⟩ := h₃
    have up₃ : ∀ b o, b ≠ cenv.locals → b ≠ I → b ≠ D → s.heap.get? b = some o → h₃.get? b = some o := fun b o hbC hbI hbD e => hk₃ b o (up₂ b o hbC hbI (hk b o hbC hbI hbD e))
    have hY₃ : h₃.IsList Y us.toArray := by obtain ⟨o, ho, hc⟩ := hY; exact ⟨o, up₃ _ _ hYC hYI hYD ho, hc⟩
    refine wpAny_pyIter_list hY₃ ?_
    have hn₃ := hn₂.keeps hk₃
    have hacc₃ : h₃.PlainList D ys := hacc'.at fun o e => hk₃ _ o (up₂ D o hDC hDI e)
    have hD3 : D < h₃.objs.size := by obtain ⟨o, ho⟩ := hacc₃; exact Heap.lt_size ho
    have hC3 : cenv.locals < h₃.objs.size := hn₃.lt
    have hY3 : Y < h₃.objs.size := by obtain ⟨o, ho, _⟩ := hY₃; exact Heap.lt_size ho
    have hst₃ : St (i + 1) h₃ := W.frame _ _ _ hst₂ fun b _ o e => hk₃ b o e
    have loop : codeAny (model prog w) A (.compLoop (.ListComp elt [⟨.Name x px, iter, [], 0⟩, ⟨.Name x' px', iter', [], 0⟩] scope pos) 1 (.ref h₃.objs.size) (.ref D) cenv)
        (fun r s' => match r with | .ok _ => ∃ m, m < n + 1 - i ∧ ∃ h' tk m' ys i, s' = { s with heap := h', toks := tk } ∧ St i h' ∧ h'.PlainList D ys ∧ h'.Ns cenv.locals m' ∧ G i 0 ys ∧ i ≤ n ∧ m = n + 1 - i ∧
      (∀ b o, b ≠ cenv.locals → b ≠ I → b ≠ D → s.heap.get? b = some o → h'.get? b = some o) | .error _ => False)
        { s with heap := h₃.push { cls := .type "list_iterator", data := .fields #[.ref Y, .int 0 0] }, toks := tk₃ } := by
      refine inner2 (s := { s with heap := h₃.push { cls := .type "list_iterator", data := .fields #[.ref Y, .int 0 0] }, toks := tk₃ }) (Y := Y) (us := us) (x := x) (v := v) hh (G i) (fun j ys h => hsz i j ys h) hx' hxx hp hDC (Nat.ne_of_lt hD3) (Nat.ne_of_lt hC3) (Nat.ne_of_lt hY3) hYC hYD ⟨_, Heap.get?_push_size _ rfl, rfl, rfl⟩ (hY₃.push _) (hacc₃.at fun o e => Heap.get?_push_of_some _ e) (hn₃.keeps fun b o e => Heap.get?_push_of_some _ e) (by simp) hG' ?_ ?_
      · intro j u ys' s₄ m₄ hu hGj hn₄ hmx hmx' hk₄
        exact helt i j v u tk ys' s₄ m₄ hlt hP hu hGj hn₄ hmx hmx' fun b o hbC hbI hbD e => hk₄ b o hbC (by have := Heap.lt_size (up₃ b o hbC hbI hbD e); exact Nat.ne_of_lt this) hbD (Heap.get?_push_of_some _ (up₃ b o hbC hbI hbD e))
      · intro h₄ tk₄ m₄ ys₄ hn₄ hpl₄ hG₄ hk₄
        have old : ∀ b o, b ≠ cenv.locals → b ≠ D → h₃.get? b = some o → h₄.get? b = some o := fun b o hbC hbD e => hk₄ b o hbC (Nat.ne_of_lt (Heap.lt_size e)) hbD (Heap.get?_push_of_some _ e)
        have hst₄ : St (i + 1) h₄ := W.frame _ _ _ hst₃ fun b hb o e => old b o (fun h => hCf (h ▸ hb)) (fun h => hDf (h ▸ hb)) e
        exact ⟨n + 1 - (i + 1), by omega, h₄, tk₄, m₄, ys₄, i + 1, rfl, hst₄, hpl₄, hn₄, hnext i ys₄ hlt hG₄, hlt, rfl, fun b o hbC hbI hbD e => old b o hbC hbD (up₃ b o hbC hbI hbD e)⟩
    exact start2_1 loop ((Itr.list (prog := prog) (w := w) (A := A) hh _ Y (Nat.ne_of_lt hY3) us).self 0 _ _ _ ⟨⟨_, Heap.get?_push_size _ rfl, rfl, rfl⟩, hY₃.push _⟩ loop)
  · have hin : i = n := by omega
    refine W.done _ _ _ (hin ▸ hst') fun h₁ hk₁ => ?_
    exact hR h₁ tk m' ys (hn'.at' fun o e => hk₁ _ o hCI e) (hacc'.at fun o e => hk₁ _ o hDI e) (hin ▸ hG') fun b o hbC hbI hbD e => hk₁ b o hbI (hk b o hbC hbI hbD e)
end
section
variable {prog : Program} {w : World} {A : Around} {E : Value → Shared → Prop} {env : Env}
theorem comp2_assign {s : Shared} {elt iter iter' : Expr} {x x' y : Str} {px px' py : Pos} {scope : Scope} {cl : List (Str × Addr)} {pos spos : Pos} {Q : Flow → Shared → Prop} (hh : A.handled = none) (G : Nat → Nat → Array Value → Prop) (hsz : ∀ i j ys, G i j ys → ys.size ≤ 100000) (hG : G 0 0 #[])
    (hsw : swapsWith (.ListComp elt [⟨.Name x px, iter, [], 0⟩, ⟨.Name x' px', iter', [], 0⟩] scope pos) (some (.Name y py)) spos.line env = pure true)
    (hclos : closureFor scope env = pure cl) (hcell : ∀ z ∈ scope.names, z.2 ≠ .cell) (hkind : scope.kind = .function)
    (hnames : ∀ z ∈ scope.names, z.2 = .local → scope.names.lookup z.1 = some .local) (hx : scope.names.lookup x = some .local) (hx' : scope.names.lookup x' = some .local) (hxx : x ≠ x')
    (hy : env.kindOf y = some .local) (hp : (env.scope.kind == .class || (env.scope.kind == .module && env.locals != env.globals)) = false)
    (h : wpAny (model prog w) A (eval iter env) (fun xv s₁ => wpAny (model prog w) A (pyIter xv) (fun it s₂ => ∃ I fp n St P m Y us, it = .ref I ∧ Itr prog w A I fp n St P ∧ St 0 s₂.heap ∧ (∀ b ∈ fp, b < s₂.heap.objs.size) ∧ env.locals ≠ I ∧ s₂.heap.Ns env.locals m ∧
      s₂.heap.IsList Y (List.toArray us) ∧ Y ≠ I ∧ (∀ i ys, i < n → G i us.length ys → G (i + 1) 0 ys) ∧
      (∀ C s₃ m₃, s₂.heap.objs.size ≤ C → s₃.heap.Ns C m₃ → (∀ b o, b ≠ I → s₂.heap.get? b = some o → s₃.heap.get? b = some o) →
        wpAny (model prog w) A (eval iter' (compEnvC scope cl C env)) (fun z s₄ => Keeps s₃ s₄ ∧ z = .ref Y) (fun _ _ => False) s₃) ∧
      (∀ C i j v u t ys s₃ m₃, s₂.heap.objs.size ≤ C → i < n → P i v t → us[j]? = some u → G i j ys → s₃.heap.Ns C m₃ → m₃ x = some v → m₃ x' = some u → (∀ b o, b ≠ I → s₂.heap.get? b = some o → s₃.heap.get? b = some o) →
        wpAny (model prog w) A (eval elt (compEnvC scope cl C env)) (fun z s₄ => Keeps s₃ s₄ ∧ G i (j + 1) (ys.push z)) (fun _ _ => False) s₃) ∧
      (∀ D h' tk ys, s₂.heap.get? D = none → h'.IsList D ys → G n 0 ys → h'.Ns env.locals (fun z => if z = y then some (.ref D) else m z) →
        (∀ b o, b ≠ env.locals → b ≠ I → s₂.heap.get? b = some o → h'.get? b = some o) → Q .next { s₂ with heap := h', toks := tk })) E s₁) E s)
    (hs : ∀ x, foldedSetIterable iter env x = pure x := by intro _; rfl) (hs' : ∀ C x, foldedSetIterable iter' (compEnvC scope cl C env) x = pure x := by intro _ _; rfl) :
    wpAny (model prog w) A (exec (.Assign [.Name y py] (.ListComp elt [⟨.Name x px, iter, [], 0⟩, ⟨.Name x' px', iter', [], 0⟩] scope pos) spos) env) Q E s := by
  rw [exec_Assign_Name_used _ _ _ _ hsw]
  refine wpAny_bind (wpAny_standAt (wpAny_bind ?_))
  show wpAny _ A (do let _ ← comprehension (.ListComp elt [⟨.Name x px, iter, [], 0⟩, ⟨.Name x' px', iter', [], 0⟩] scope pos) scope env _ (newList []) false (eval iter env) (some (assign (.Name y py) env))) _ _ s
  refine wpAny_bind (wpAny_mono (wpAny_comprehension_free (use := some (assign (.Name y py) env)) (Q := fun _ s' => Q .next s') rfl hs hclos hkind hnames
    (wpAny_mono h (fun xv s₁ h₁ => wpAny_mono h₁ (fun it s₂ h₂ => ?_) fun _ _ e => e) fun _ _ e => e)) (fun _ s' hq => wpAny_pure (wpAny_pure hq)) fun _ _ e => e)
  obtain ⟨I, fp, n, St, P, m, Y, us, rfl, W, hst, hfp, hLI, hn, hY, hYI, hnext, hiter, helt, hQ⟩ := h₂
  refine wpAny_newObj_type (wpAny_newFunctionEnv hcell (by intro y hy; simp at hy) (fun h₁ hns₁ hsb₁ => ?_) hkind)
  dsimp only at hns₁ hsb₁ ⊢
  generalize hH2 : s₂.heap.push { cls := .type "list", dict := none, data := .seq ([] : List Value).toArray } = H2 at hns₁ hsb₁ ⊢
  have hC : H2.objs.size = s₂.heap.objs.size + 1 := by rw [← hH2, Heap.size_push]
  have hDC : s₂.heap.objs.size ≠ H2.objs.size := by rw [hC]; exact Nat.ne_of_lt (Nat.lt_succ_self _)
  have hCle : s₂.heap.objs.size ≤ H2.objs.size := by rw [hC]; exact Nat.le_succ _
  have below : ∀ b, b < s₂.heap.objs.size → b ≠ H2.objs.size ∧ b ≠ s₂.heap.objs.size := fun b hb => ⟨by rw [hC]; exact Nat.ne_of_lt (Nat.lt_succ_of_lt hb), Nat.ne_of_lt hb⟩
  have hDf : s₂.heap.objs.size ∉ fp := fun hm => Nat.lt_irrefl _ (hfp _ hm)
  have hCf : H2.objs.size ∉ fp := fun hm => by have := hfp _ hm; rw [hC] at this; exact Nat.lt_irrefl _ (Nat.lt_of_succ_lt this)
  have old : ∀ b o, s₂.heap.get? b = some o → h₁.get? b = some o := fun b o e => hsb₁.extBut b o (below b (Heap.lt_size e)).1 (Heap.get?_push_of_some _ (hH2 ▸ Heap.get?_push_of_some _ e))
  have hacc : h₁.PlainList s₂.heap.objs.size #[] := ⟨_, hsb₁.extBut _ _ hDC (Heap.get?_push_of_some _ (hH2 ▸ Heap.get?_push_size _ rfl))⟩
  have hst₁ : St 0 h₁ := W.frame _ _ _ hst fun b _ o e => old b o e
  have hYlt : Y < s₂.heap.objs.size := by obtain ⟨o, ho, _⟩ := hY; exact Heap.lt_size ho
  have hY₁ : h₁.IsList Y us.toArray := by obtain ⟨o, ho, hc⟩ := hY; exact ⟨o, old _ _ ho, hc⟩
  have fresh : ∀ a, s₂.heap.objs.size ≤ a → s₂.heap.get? a = none := fun a ha => by
    cases e : s₂.heap.get? a with
    | none => rfl
    | some o' => exact absurd (Heap.lt_size e) (Nat.not_lt.mpr ha)
  have loop : ∀ s₃ : Shared, s₃ = { s₂ with heap := h₁, toks := s₂.toks + ([] : List (Str × Value)).length } →
      codeAny (model prog w) A (.compLoop (.ListComp elt [⟨.Name x px, iter, [], 0⟩, ⟨.Name x' px', iter', [], 0⟩] scope pos) 0 (.ref I) (.ref s₂.heap.objs.size) (compEnvC scope cl H2.objs.size env))
        (compPost (model prog w) A E (some (assign (.Name y py) env)) (fun _ s' => Q .next s') (.ref s₂.heap.objs.size) H2.objs.size) s₃ := by
    rintro s₃ rfl
    refine outer2 (cenv := compEnvC scope cl H2.objs.size env) hh W G hsz hG hnext (lookup_relabel_local hx) (lookup_relabel_local hx') hxx (by simp [compEnvC, relabel, hkind]) hDC hDf hCf hYI (below Y hYlt).1 (below Y hYlt).2 hst₁ hY₁ hacc hns₁
      (fun s₃ m₃ hn hk => hiter _ s₃ m₃ hCle hn (fun b o hbI e => hk b o (below b (Heap.lt_size e)).1 hbI (below b (Heap.lt_size e)).2 (old b o e)))
      (fun i j v u t ys s₃ m₃ hi hv hu hg hn hm hm₂ hk => helt _ i j v u t ys s₃ m₃ hCle hi hv hu hg hn hm hm₂ (fun b o hbI e => hk b o (below b (Heap.lt_size e)).1 hbI (below b (Heap.lt_size e)).2 (old b o e))) (fun h' tk m' ys hnC hpl hg hk => ?_) (hs' _)
    have hD := fresh _ (Nat.le_refl s₂.heap.objs.size)
    have hCn := fresh H2.objs.size hCle
    have hk' : ∀ b o, b ≠ I → s₂.heap.get? b = some o → h'.get? b = some o := fun b o hbI e =>
      hk b o (below b (Heap.lt_size e)).1 hbI (below b (Heap.lt_size e)).2 (old b o e)
    have hLC : env.locals ≠ H2.objs.size := by rintro e; obtain ⟨o, _, _, ho, _⟩ := hn; rw [e, hCn] at ho; cases ho
    have hLD : env.locals ≠ s₂.heap.objs.size := by rintro e; obtain ⟨o, _, _, ho, _⟩ := hn; rw [e, hD] at ho; cases ho
    show wpAny _ A (assign (.Name y py) env (.ref s₂.heap.objs.size)) _ _ _
    refine wpAny_assign_Name (wpAny_storeName_local hy (hn.at' fun o e => hk' _ o hLI e) (fun h₂ hn₂ hs₂ => ?_) hp)
    refine ⟨m', hnC.sameBut hs₂ (Ne.symm hLC), fun h₃ hs₃ => ?_⟩
    exact hQ _ h₃ _ ys hD ((hpl.isList.extBut hs₂.extBut (Ne.symm hLD)).extBut hs₃.extBut hDC) hg (hn₂.sameBut hs₃ hLC) fun b o hbL hbI e =>
      hs₃.extBut b o (fun q => by rw [q, hCn] at e; cases e) (hs₂.extBut b o hbL (hk' b o hbI e))
  exact codeAny_compStart_list (loop _ rfl) (W.self 0 _ _ _ hst₁ (loop _ rfl))
end
end

/-! ## part P4 -/
section
open PySem PySem.W PyProof.Rows PySem.Calls
/-- an alphabet that can be drawn -/
noncomputable def Sg2 (sg : List Nat) : Prop := ∃ f, f ∈ figs ∧ sg = [61, f]
noncomputable def Sg3 (sg : List Nat) : Prop := ∃ f x, f ∈ figs ∧ sg = [61, f, x] ∧ (x = 32 ∨ x = 9 ∨ (x ∈ figs ∧ x ≠ f) ∨ x ∈ others)
theorem figs_nodup : ∀ i j : Fin 22, figs.getD i 0 = figs.getD j 0 → i = j := by decide
theorem figs_get {i : Nat} (h : i < 22) : figs.getD i 0 ∈ figs := by
  have : ∀ i : Fin 22, figs.getD i 0 ∈ figs := by decide
  exact this ⟨i, h⟩
theorem others_get {i : Nat} (h : i < 71) : others.getD i 0 ∈ others := by
  have hl := others_len
  have : others[i]? = some (others.getD i 0) := by simp [List.getD_eq_getElem?_getD, List.getElem?_eq_getElem (show i < others.length by omega)]
  exact List.mem_of_getElem? this
theorem alph_ok (a b c : Nat) : Sg2 (alph a b c) ∨ Sg3 (alph a b c) := by
  have hf := figs_get (Nat.mod_lt a (show 0 < 22 by decide))
  unfold alph
  by_cases h1 : c % 2 = 0
  · rw [if_pos h1]; exact .inl ⟨_, hf, rfl⟩
  · rw [if_neg h1]
    by_cases h2 : b % 4 = 0
    · rw [if_pos h2]
      refine .inr ⟨_, _, hf, rfl, ?_⟩
      by_cases h3 : b / 4 % 2 = 0
      · rw [if_pos h3]; exact .inl rfl
      · rw [if_neg h3]; exact .inr (.inl rfl)
    · rw [if_neg h2]
      by_cases h3 : b % 4 = 1
      · rw [if_pos h3]
        refine .inr ⟨_, _, hf, rfl, .inr (.inr (.inl ⟨figs_get (Nat.mod_lt _ (by decide)), ?_⟩))⟩
        intro e
        have := figs_nodup ⟨_, Nat.mod_lt (a + 1 + b / 4 % 21) (show 0 < 22 by decide)⟩ ⟨_, Nat.mod_lt a (show 0 < 22 by decide)⟩ e
        have := congrArg Fin.val this
        simp only at this
        omega
      · rw [if_neg h3]
        exact .inr ⟨_, _, hf, rfl, .inr (.inr (.inr (others_get (Nat.mod_lt _ (by decide)))))⟩
/-- all texts of n signs -/
noncomputable def prod (sg : List Nat) : Nat → List (List Nat)
  | 0 => [[]]
  | n + 1 => (prod sg n).flatMap fun t => sg.map fun c => t ++ [c]
theorem prod_len (sg : List Nat) : ∀ n, (prod sg n).length = sg.length ^ n
  | 0 => rfl
  | n + 1 => by
    rw [prod, Nat.pow_succ, ← prod_len sg n]
    generalize prod sg n = l
    induction l with
    | nil => simp
    | cons a l ih => rw [List.flatMap_cons, List.length_append, ih, List.length_map, List.length_cons, Nat.succ_mul]; omega
theorem prod_mem (sg : List Nat) : ∀ n, ∀ t ∈ prod sg n, t.length = n ∧ ∀ c ∈ t, c ∈ sg
  | 0, t, h => by simp [prod] at h; subst h; simp
  | n + 1, t, h => by
    simp only [prod, List.mem_flatMap, List.mem_map] at h
    obtain ⟨u, hu, c, hc, rfl⟩ := h
    have := prod_mem sg n u hu
    refine ⟨by simp [this.1], fun d hd => ?_⟩
    rcases List.mem_append.mp hd with hd | hd
    · exact this.2 d hd
    · rw [List.mem_singleton.mp hd]; exact hc
end

/-! ## part P5 -/
section
open PySem PySem.W PyProof.Rows PySem.Calls
theorem three_ints {ys : Array Value} (h : ys.size = 3) (hR : ∀ (i : Nat) y, ys[i]? = some y → ∃ z k, y = Value.int (z : Int) k ∧ 0 ≤ z ∧ z < 1000000) : ∃ (a b c : Nat) (ta tb tc : Tok), ys.toList = [.int (a : Int) ta, .int (b : Int) tb, .int (c : Int) tc] ∧ a < 1000000 ∧ b < 1000000 ∧ c < 1000000 := by
  obtain ⟨l⟩ := ys
  have h3 : ∀ l : List Value, l.length = 3 → ∃ x y z, l = [x, y, z] := by
    rintro (_ | ⟨x, _ | ⟨y, _ | ⟨z, _ | ⟨q, r⟩⟩⟩⟩) h
    · cases h
    · cases h
    · cases h
    · exact ⟨x, y, z, rfl⟩
    · simp only [List.length_cons] at h; omega
  obtain ⟨x, y, z, rfl⟩ := h3 l h
  have one : ∀ {v : Value}, (∃ z k, v = Value.int (z : Int) k ∧ 0 ≤ z ∧ z < 1000000) → ∃ (a : Nat) (t : Tok), v = .int (a : Int) t ∧ a < 1000000 := by
    rintro v ⟨z, k, rfl, h0, h1⟩
    obtain ⟨a, rfl⟩ := Int.eq_ofNat_of_zero_le h0
    exact ⟨a, k, rfl, by omega⟩
  obtain ⟨a, ta, rfl, ha⟩ := one (hR 0 x rfl)
  obtain ⟨b, tb, rfl, hb⟩ := one (hR 1 y rfl)
  obtain ⟨c, tc, rfl, hc⟩ := one (hR 2 z rfl)
  exact ⟨a, b, c, ta, tb, tc, rfl, ha, hb, hc⟩
theorem news_call {h₀ hc h' : Heap} {L D : Addr} {m : Str → Option Value} {vs : List Value} {news : List (Addr × Obj)} (F : Fr h₀ L hc m) (N : News h₀ L h' news) (hD : hc.get? D = none) (hl : h'.IsList D vs.toArray) :
    ∃ oD, (oD.cls = .type "list" ∧ ∃ n, oD.data = .seq vs.toArray n) ∧ News h₀ L h' ((D, oD) :: news) := by
  refine news_list N hl ?_ ?_
  · rintro rfl
    obtain ⟨o, _, _, ho, _⟩ := F.ns
    rw [hD] at ho; cases ho
  · cases q : h₀.get? D with
    | none => rfl
    | some o => rw [F.keep _ _ q] at hD; cases hD
end

/-! ## part Cut -/
section
open PySem PySem.W PyProof.Rows PySem.Calls
noncomputable def CutP (P : Shared → Prop) (f : Flow) (s' : Shared) : Prop := f = .next ∧ P s'
theorem CutP.mk {P : Shared → Prop} {s' : Shared} (h : P s') : CutP P .next s' := ⟨rfl, h⟩
theorem cutS {M : Model} {A : Around} {stmt : Stmt} {rest : List Stmt} {env : Env} {Q : Flow → Shared → Prop} {E : Value → Shared → Prop} {s : Shared} (P : Shared → Prop)
    (h1 : wpAny M A (exec stmt env) (CutP P) (fun _ _ => False) s) (h2 : ∀ s', P s' → wpAny M A (execs rest env) Q E s') : wpAny M A (execs (stmt :: rest) env) Q E s := by
  refine wpAny_execs_cons (wpAny_mono h1 (fun f s' h => ?_) fun _ _ e => e.elim)
  obtain ⟨rfl, hP⟩ := h
  exact h2 s' hP
theorem cutE {M : Model} {A : Around} {stmt : Stmt} {env : Env} {Q : Flow → Shared → Prop} {E : Value → Shared → Prop} {s : Shared} (P : Shared → Prop)
    (h1 : wpAny M A (exec stmt env) (CutP P) (fun _ _ => False) s) (h2 : ∀ s', P s' → Q .next s') : wpAny M A (exec stmt env) Q E s := by
  refine wpAny_mono h1 (fun f s' h => ?_) fun _ _ e => e.elim
  obtain ⟨rfl, hP⟩ := h
  exact h2 s' hP
theorem News.sub {h₀ h : Heap} {L : Addr} {a b : List (Addr × Obj)} (N : News h₀ L h a) (hs : ∀ p ∈ b, p ∈ a) : News h₀ L h b := fun p hp => N p (hs p hp)
theorem stC {M : Model} {A : Around} {E : Value → Shared → Prop} {s : Shared} {env : Env} {name : Str} {L c : Addr} {h₀ : Heap} {m : Str → Option Value} {o : Obj} {post : List (Addr × Obj)} {v₀ : Option Value} {v : Value} {Q : Unit → Shared → Prop}
    (F : Fr h₀ L s.heap m) (N : News h₀ L s.heap ((c, o) :: post)) (hpost : ∀ p ∈ post, p.1 ≠ c) (hd : o.data = .cell v₀)
    (hk : env.scope.kind = .function) (hl : env.kindOf name = some .cell) (hc : env.cells.lookup name = some c)
    (h : ∀ h' o', Fr h₀ L h' m → News h₀ L h' ((c, o') :: post) → o'.data = .cell (some v) → Q () { s with heap := h' }) : wpAny M A (storeName env name v) Q E s := by
  have hm := N _ (.head _)
  refine wpAny_storeName_cell hk hl hc ⟨o, hm.1, hd⟩ fun h' hv hs => ?_
  obtain ⟨o', ho', hd'⟩ := hv
  refine h h' o' ⟨F.ns.sameBut hs (Ne.symm hm.2.1), fun b ob e => hs.extBut b ob (fun q => ?_) (F.keep b ob e), F.above⟩ (fun p hp => ?_) hd'
  · rw [q, hm.2.2] at e; cases e
  · rcases List.mem_cons.mp hp with rfl | hp
    · exact ⟨ho', hm.2⟩
    · have := N p (.tail _ hp)
      exact ⟨hs.extBut _ _ (hpost p hp) this.1, this.2⟩
/-- a list and a cell lie apart -/
theorem apart_lc {h₀ h : Heap} {L a c : Addr} {oa oc : Obj} {news : List (Addr × Obj)} {vs : Array Value} {v : Option Value} (N : News h₀ L h news) (ha : (a, oa) ∈ news) (hc : (c, oc) ∈ news) (h1 : oa.cls = .type "list" ∧ ∃ n, oa.data = .seq vs n) (h2 : oc.data = .cell v) : a ≠ c := by
  rintro rfl
  have e : some oa = some oc := (N _ ha).1.symm.trans (N _ hc).1
  injection e with e
  obtain ⟨_, n, h1⟩ := h1
  subst e
  rw [h2] at h1; cases h1
theorem News.pick {h₀ h : Heap} {L : Addr} {p : Addr × Obj} {n t : List (Addr × Obj)} (N : News h₀ L h n) (hp : p ∈ n) (T : News h₀ L h t) : News h₀ L h (p :: t) := fun q hq => by
  rcases List.mem_cons.mp hq with rfl | hq
  · exact N _ hp
  · exact T q hq
end
local macro_rules | `(tactic| walk_at "exec Assign cons IfExp") => `(tactic| ((fail_if_success (with_reducible show wpAny _ _ _ (CutP _) _ _)); refine stop_ ?_))

/-! ## part P6 -/
section
open PySem PySem.W PyProof.Rows PySem.Calls
theorem flat_get (sg : List Nat) : ∀ (l : List (List Nat)) (i j : Nat) (t : List Nat) (c : Nat), l[i]? = some t → sg[j]? = some c → (l.flatMap fun t => sg.map fun c => t ++ [c])[i * sg.length + j]? = some (t ++ [c])
  | [], i, j, t, c, h, _ => by simp at h
  | a :: l, 0, j, t, c, h, hj => by
    have : a = t := by simpa using h
    subst this
    have hlt := (List.getElem?_eq_some_iff.mp hj).1
    rw [List.flatMap_cons, Nat.zero_mul, Nat.zero_add, List.getElem?_append_left (by simpa using hlt), List.getElem?_map, hj]; rfl
  | a :: l, i + 1, j, t, c, h, hj => by
    have h' : l[i]? = some t := by simpa using h
    have ih := flat_get sg l i j t c h' hj
    have e : (i + 1) * sg.length + j - sg.length = i * sg.length + j := by rw [Nat.succ_mul]; omega
    rw [List.flatMap_cons, List.getElem?_append_right (by rw [List.length_map, Nat.succ_mul]; omega), List.length_map, e, ih]
theorem take_snoc {α : Type} {l : List α} {m : Nat} {x : α} (h : l[m]? = some x) : l.take (m + 1) = l.take m ++ [x] := by
  rw [List.take_add_one, h]; rfl
theorem strs_snoc {vs : List Value} {xs : List Str} {x : Str} {k : Tok} (h : StrsAre vs xs) : StrsAre (vs ++ [.str x k]) (xs ++ [x]) := by
  induction h with
  | nil => exact .cons _ _ .nil
  | cons n t _ ih => exact .cons _ _ ih
theorem strs_get {vs : List Value} {xs : List Str} (h : StrsAre vs xs) : ∀ {j : Nat} {v : Value}, vs[j]? = some v → ∃ x k, xs[j]? = some x ∧ v = .str x k := by
  induction h with
  | nil => intro j v hv; simp at hv
  | cons x k _ ih =>
    intro j v hv
    cases j with
    | zero => exact ⟨x, k, rfl, by simpa using hv.symm⟩
    | succ j => exact ih (by simpa using hv)
/-- what the comprehension over two clauses has laid so far -/
noncomputable def GT (sg : List Nat) (n : Nat) (i j : Nat) (ys : Array Value) : Prop := StrsAre ys.toList (((prod sg (n + 1)).take (i * sg.length + j)).map S)
theorem GT.zero (sg : List Nat) (n : Nat) : GT sg n 0 0 #[] := by simp only [GT, Nat.zero_mul, Nat.add_zero, List.take_zero, List.map_nil]; exact .nil
theorem GT.next {sg : List Nat} {n i : Nat} {ys : Array Value} (h : GT sg n i sg.length ys) : GT sg n (i + 1) 0 ys := by
  unfold GT at *; rw [Nat.succ_mul]; exact h
theorem GT.step {sg : List Nat} {n i j : Nat} {ys : Array Value} {t : List Nat} {c : Nat} {k : Tok} (h : GT sg n i j ys) (ht : (prod sg n)[i]? = some t) (hc : sg[j]? = some c) : GT sg n i (j + 1) (ys.push (.str (S (t ++ [c])) k)) := by
  unfold GT at *
  rw [← Nat.add_assoc, take_snoc (l := prod sg (n + 1)) (flat_get sg (prod sg n) i j t c ht hc), List.map_append, Array.toList_push]
  exact strs_snoc h
theorem GT.size {sg : List Nat} {n i j : Nat} {ys : Array Value} (hb : sg.length ^ (n + 1) ≤ 1000) (h : GT sg n i j ys) : ys.size ≤ 100000 := by
  unfold GT at h
  have h1 := h.len_eq
  rw [List.length_map, List.length_take, prod_len] at h1
  have : ys.size = ys.toList.length := by simp
  omega
theorem GT.all {sg : List Nat} {n : Nat} {ys : Array Value} (h : GT sg n (prod sg n).length 0 ys) : StrsAre ys.toList ((prod sg (n + 1)).map S) := by
  unfold GT at h
  rw [List.take_of_length_le (by rw [prod_len, prod_len, Nat.pow_succ]; omega)] at h
  exact h
end

/-! ## part DictC -/
section
open PySem PySem.W PyProof.Rows PySem.Calls
section
variable {prog : Program} {w : World} {A : Around} {E : Value → Shared → Prop} {env : Env} {K : Type} [DecidableEq K]
/-- a dict comprehension; its dict lies above the old heap -/
theorem dict_eval {s : Shared} {kx vx iter : Expr} {x : Str} {px : Pos} {ifs : List Expr} {scope : Scope} {cl : List (Str × Addr)} {pos : Pos} {Q : Value → Shared → Prop} (knd : KeyKind prog w K) (p : Value → Bool)
    (FK : Value → K → Prop) (FV : Value → Value → Prop)
    (hclos : closureFor scope env = pure cl) (hcell : ∀ y ∈ scope.names, y.2 ≠ .cell) (hkind : scope.kind = .function)
    (hnames : ∀ y ∈ scope.names, y.2 = .local → scope.names.lookup y.1 = some .local) (hx : scope.names.lookup x = some .local)
    (h : wpAny (model prog w) A (eval iter env) (fun xv s₁ => wpAny (model prog w) A (pyIter xv) (fun it s₂ => ∃ I fp wr n P St, it = .ref I ∧ Walks prog w A I fp wr n P St ∧ n ≤ sizeLine ∧ St 0 s₂.heap ∧ (∀ b ∈ fp, b < s₂.heap.objs.size) ∧
      QuietOnCD knd A env scope cl x ifs kx vx wr P p FK FV s₂ ∧
      (∀ D h' tk kvs (vs : List Value), s₂.heap.objs.size ≤ D → s₂.heap.get? D = none → h'.DictOf knd D kvs → vs.length = n → (∀ (j : Nat) v, vs[j]? = some v → P j v) → StoredAll FK FV (vs.filter p) kvs →
        (∀ b o, b ∉ wr → s₂.heap.get? b = some o → h'.get? b = some o) → Q (.ref D) { s₂ with heap := h', toks := tk })) E s₁) E s)
    (hs : ∀ x, foldedSetIterable iter env x = pure x := by intro _; rfl) :
    wpAny (model prog w) A (eval (.DictComp kx vx [⟨.Name x px, iter, ifs, 0⟩] scope pos) env) Q E s := by
  rw [arm_eval_DictComp]
  refine wpAny_comprehension_free (use := none) rfl hs hclos hkind hnames (wpAny_mono h (fun xv s₁ h₁ => wpAny_mono h₁ (fun it s₂ h₂ => ?_) fun _ _ e => e) fun _ _ e => e)
  obtain ⟨I, fp, wr, n, P, St, rfl, W, hsz, hst, hfp, hq, hQ⟩ := h₂
  refine wpAny_newObj_type (wpAny_newFunctionEnv hcell (by intro y hy; simp at hy) (fun h₁ hns₁ hsb₁ => ?_) hkind)
  dsimp only at hns₁ hsb₁ ⊢
  have hnew : (s₂.heap.push { cls := .type "dict", dict := none, data := .dict #[] }).DictOf knd s₂.heap.objs.size [] := Heap.DictOf.new s₂.heap
  generalize hH2 : s₂.heap.push { cls := .type "dict", dict := none, data := .dict #[] } = H2 at hns₁ hsb₁ hnew ⊢
  have hC : H2.objs.size = s₂.heap.objs.size + 1 := by rw [← hH2, Heap.size_push]
  have hDC : s₂.heap.objs.size ≠ H2.objs.size := by rw [hC]; exact Nat.ne_of_lt (Nat.lt_succ_self _)
  have below : ∀ b, b < s₂.heap.objs.size → b ≠ H2.objs.size ∧ b ≠ s₂.heap.objs.size := fun b hb => ⟨by rw [hC]; exact Nat.ne_of_lt (Nat.lt_succ_of_lt hb), Nat.ne_of_lt hb⟩
  have hDf : s₂.heap.objs.size ∉ fp := fun hm => Nat.lt_irrefl _ (hfp _ hm)
  have hCf : H2.objs.size ∉ fp := fun hm => by have := hfp _ hm; rw [hC] at this; exact Nat.lt_irrefl _ (Nat.lt_of_succ_lt this)
  have old : ∀ b o, s₂.heap.get? b = some o → h₁.get? b = some o := fun b o e => hsb₁.extBut b o (below b (Heap.lt_size e)).1 (Heap.get?_push_of_some _ (hH2 ▸ Heap.get?_push_of_some _ e))
  have hacc : h₁.DictOf knd s₂.heap.objs.size [] := hnew.at fun o e => hsb₁.extBut _ _ hDC (Heap.get?_push_of_some _ e)
  have hst₁ : St 0 h₁ := W.frame _ _ _ hst fun b _ o e => old b o e
  have fresh : ∀ a, s₂.heap.objs.size ≤ a → s₂.heap.get? a = none := fun a ha => by
    cases e : s₂.heap.get? a with
    | none => rfl
    | some o' => exact absurd (Heap.lt_size e) (Nat.not_lt.mpr ha)
  have loop : ∀ s₃ : Shared, s₃ = { s₂ with heap := h₁, toks := s₂.toks + ([] : List (Str × Value)).length } →
      codeAny (model prog w) A (.compLoop (.DictComp kx vx [⟨.Name x px, iter, ifs, 0⟩] scope pos) 0 (.ref I) (.ref s₂.heap.objs.size) (compEnvC scope cl H2.objs.size env))
        (compPost (model prog w) A E none Q (.ref s₂.heap.objs.size) H2.objs.size) s₃ := by
    rintro s₃ rfl
    refine codeAny_compLoop_walkD (hsz := hsz) (knd := knd) (cenv := compEnvC scope cl H2.objs.size env) W p FK FV (lookup_relabel_local hx) (by simp [compEnvC, relabel, hkind]) hDC hDf hCf hst₁ hacc hns₁
      (fun i v s₃ m₃ hv hn hm hk => hq.tests _ i v s₃ m₃ _ hv hn hm fun b o hbf e => hk b o (below b (Heap.lt_size e)).1 hbf (below b (Heap.lt_size e)).2 (old b o e))
      (fun i v s₃ m₃ hv hpv hn hm hk => hq.key _ i v s₃ m₃ _ hv hpv hn hm fun b o hbf e => hk b o (below b (Heap.lt_size e)).1 hbf (below b (Heap.lt_size e)).2 (old b o e))
      (fun i v s₃ m₃ hv hpv hn hm hk => hq.val _ i v s₃ m₃ _ hv hpv hn hm fun b o hbf e => hk b o (below b (Heap.lt_size e)).1 hbf (below b (Heap.lt_size e)).2 (old b o e)) fun h' tk m' kvs vs hn ha hlen hP hF hk => ?_
    have hCn := fresh H2.objs.size (by rw [hC]; exact Nat.le_succ _)
    have hk' : ∀ b o, b ∉ wr → s₂.heap.get? b = some o → h'.get? b = some o := fun b o hbf e => hk b o (below b (Heap.lt_size e)).1 hbf (below b (Heap.lt_size e)).2 (old b o e)
    exact ⟨m', hn, fun h'' hs'' => hQ _ h'' tk kvs vs (Nat.le_refl _) (fresh _ (Nat.le_refl _)) (ha.extBut hs''.extBut hDC) hlen hP hF fun b o hbf e => hs''.extBut b o (fun q => by rw [q, hCn] at e; cases e) (hk' b o hbf e)⟩
  exact codeAny_compStart_dict (loop _ rfl) (W.self 0 _ _ _ hst₁ (loop _ rfl))
end
end

/-! ## part P7 -/
section
open PySem PySem.W PyProof.Rows PySem.Calls
theorem figs_hex1 : ∀ c ∈ figs, c ∈ hexL := by decide
theorem figs_hex2 : ∀ c ∈ hexL, c ∈ figs := by decide
theorem figs_hex (c : Nat) : c ∈ figs ↔ c ∈ hexL := ⟨figs_hex1 c, figs_hex2 c⟩
theorem strs_areOf {vs : List Value} {xs : List Str} (h : StrsAre vs xs) : AreOf .str vs xs := by
  induction h with
  | nil => exact .nil
  | cons x t _ ih => exact .cons ⟨t, rfl⟩ ih
/-- the test and the value of `values`, on a text -/
noncomputable def pzF (x : Str) : Bool := match x.cps.toList with | [c] => decide (c ∈ figs) | _ => false
noncomputable def dF (x : Str) : PyData := match x.cps.toList with | [c] => .int (hexV c : Int) | _ => .none
theorem pzF_S (c : Nat) : pzF (S [c]) = decide (c ∈ figs) := rfl
theorem dF_S (c : Nat) : dF (S [c]) = .int (hexV c : Int) := rfl
noncomputable def valD (sg : List Nat) : List (PyData × PyData) := putAll PyData.str id dF ((sg.map fun c => S [c]).filter pzF)
theorem figs_61 : (61 : Nat) ∉ figs := by decide
theorem valD2 {f : Nat} (hf : f ∈ figs) : valD [61, f] = [(.str (S [f]), .int (hexV f : Int))] := by
  have e : ([61, f].map fun c => S [c]).filter pzF = [S [f]] := by
    simp only [List.map_cons, List.map_nil, List.filter_cons, pzF_S, figs_61, hf, List.filter_nil]; simp
  unfold valD; rw [e]; rfl
theorem valD3n {f x : Nat} (hf : f ∈ figs) (hx : x ∉ figs) : valD [61, f, x] = [(.str (S [f]), .int (hexV f : Int))] := by
  have e : ([61, f, x].map fun c => S [c]).filter pzF = [S [f]] := by
    simp only [List.map_cons, List.map_nil, List.filter_cons, pzF_S, figs_61, hf, hx, List.filter_nil]; simp
  unfold valD; rw [e]; rfl
theorem valD3f {f x : Nat} (hf : f ∈ figs) (hx : x ∈ figs) (hxf : x ≠ f) : valD [61, f, x] = [(.str (S [f]), .int (hexV f : Int)), (.str (S [x]), .int (hexV x : Int))] := by
  have e : ([61, f, x].map fun c => S [c]).filter pzF = [S [f], S [x]] := by
    simp only [List.map_cons, List.map_nil, List.filter_cons, pzF_S, figs_61, hf, hx, List.filter_nil]; simp
  have hs : Spec.same (.str (S [f])) (.str (S [x])) = false := by
    rw [PyProof.V.same_str]
    exact decide_eq_false fun e => hxf (S_single e).symm
  unfold valD; rw [e]
  simp only [putAll, List.foldl_cons, List.foldl_nil, id]
  rw [show PyProof.V.putD (.str (S [f])) (dF (S [f])) [] = [(.str (S [f]), .int (hexV f : Int))] from rfl]
  unfold PyProof.V.putD
  simp only [List.any_cons, List.any_nil, hs, Bool.or_false]
  rfl
theorem same_S (a b : Nat) : Spec.same (.str (S [a])) (.str (S [b])) = decide (a = b) := by
  rw [PyProof.V.same_str]
  by_cases h : a = b
  · subst h; simp
  · rw [decide_eq_false h, decide_eq_false]; exact fun e => h (S_single e)
theorem others_no : ∀ x ∈ others, x ∉ figs ∧ x ≠ 61 ∧ 33 ≤ x ∧ x ≤ 126 := by decide +kernel
theorem valD_look {sg : List Nat} (h : Sg2 sg ∨ Sg3 sg) : ∀ c ∈ sg, Spec.lookup (.str (S [c])) (valD sg) = if c ∈ hexL then some (.int (hexV c)) else none := by
  have l1 : ∀ f c : Nat, f ∈ figs → (c ∈ hexL → c = f) → Spec.lookup (.str (S [c])) [(.str (S [f]), .int (hexV f : Int))] = if c ∈ hexL then some (.int (hexV c)) else none := by
    intro f c hf hc
    simp only [Spec.lookup, same_S]
    by_cases hcf : f = c
    · subst hcf; simp [(figs_hex f).mp hf]
    · have : c ∉ hexL := fun h => hcf (hc h).symm
      simp [hcf, this]
  have n61 : (61 : Nat) ∉ hexL := by decide
  rcases h with ⟨f, hf, rfl⟩ | ⟨f, x, hf, rfl, hx⟩
  · intro c hc
    rw [valD2 hf]
    refine l1 f c hf fun h => ?_
    simp only [List.mem_cons, List.not_mem_nil, or_false] at hc
    rcases hc with rfl | rfl
    · exact absurd h n61
    · rfl
  · by_cases hxf : x ∈ figs
    · have hne : x ≠ f := by
        rcases hx with rfl | rfl | h | h
        · exact absurd hxf (by decide)
        · exact absurd hxf (by decide)
        · exact h.2
        · exact absurd hxf (others_no x h).1
      intro c hc
      rw [valD3f hf hxf hne]
      simp only [List.mem_cons, List.not_mem_nil, or_false] at hc
      simp only [Spec.lookup, same_S]
      rcases hc with rfl | rfl | rfl
      · have h1 : f ≠ 61 := fun e => figs_61 (e ▸ hf)
        have h2 : x ≠ 61 := fun e => figs_61 (e ▸ hxf)
        simp [h1, h2, n61]
      · simp [(figs_hex c).mp hf]
      · simp [(figs_hex c).mp hxf, Ne.symm hne]
    · intro c hc
      rw [valD3n hf hxf]
      refine l1 f c hf fun h => ?_
      simp only [List.mem_cons, List.not_mem_nil, or_false] at hc
      rcases hc with rfl | rfl | rfl
      · exact absurd h n61
      · rfl
      · exact absurd ((figs_hex _).mpr h) hxf
theorem sg_ok {sg : List Nat} (h : Sg2 sg ∨ Sg3 sg) : ∀ c ∈ sg, okC c := by
  have hfig : ∀ f ∈ figs, okC f := by
    have : ∀ f ∈ figs, 32 ≤ f ∧ f ≤ 126 := by decide
    exact fun f hf => .inr (this f hf)
  intro c hc
  rcases h with ⟨f, hf, rfl⟩ | ⟨f, x, hf, rfl, hx⟩
  · simp only [List.mem_cons, List.not_mem_nil, or_false] at hc
    rcases hc with rfl | rfl
    · exact .inr (by decide)
    · exact hfig _ hf
  · simp only [List.mem_cons, List.not_mem_nil, or_false] at hc
    rcases hc with rfl | rfl | rfl
    · exact .inr (by decide)
    · exact hfig _ hf
    · rcases hx with rfl | rfl | h | h
      · exact .inr (by decide)
      · exact .inl rfl
      · exact hfig _ h.1
      · have := others_no _ h; exact .inr (by omega)
end

/-! ## part LB -/
section
open PySem PySem.W PyProof.Rows
/-- law's own def, out of the row -/
noncomputable def lastD (d : Stmt) : List Stmt → Stmt
  | [] => d
  | x :: r => lastD x r
noncomputable def lawDef : Stmt := lastD (.Pass ⟨0, 0, 0, 0⟩) PySem.Challenge.pw_rs0071_01.main.body
noncomputable def hdS : List Stmt → Stmt
  | [] => .Pass ⟨0, 0, 0, 0⟩
  | x :: _ => x
noncomputable def tlS : List Stmt → List Stmt
  | [] => []
  | _ :: r => r
/-- the statements from the 7th on, and so forth -/
noncomputable def law7 : List Stmt := tlS (tlS (tlS (tlS (tlS (tlS (tlS (bodyD lawDef)))))))
noncomputable def law8 : List Stmt := tlS law7
noncomputable def law9 : List Stmt := tlS law8
noncomputable def law10 : List Stmt := tlS law9
noncomputable def law11 : List Stmt := tlS law10
noncomputable def law12 : List Stmt := tlS law11
noncomputable def law13 : List Stmt := tlS law12
theorem law7_c : law7 = hdS law7 :: law8 := rfl
theorem law8_c : law8 = hdS law8 :: law9 := rfl
theorem law9_c : law9 = hdS law9 :: law10 := rfl
theorem law10_c : law10 = hdS law10 :: law11 := rfl
theorem law11_c : law11 = hdS law11 :: law12 := rfl
theorem law12_c : law12 = hdS law12 :: law13 := rfl
noncomputable def lawEnv (L : Addr) : Env := envOfC (Str.ofString "law") (scopeD lawDef) L 129 (.ref 128)
/-- what law's body ends in -/
noncomputable def LawPost (s : Shared) (fl : Flow) (s' : Shared) : Prop := Post s (fun v _ => v = .bool true) (match fl with | .ret v => v | _ => .none) s'
/-- law's frame -/
noncomputable def lawFr (d D : Addr) (k : Nat) (tz : Tok) (TX : Addr) (v1 v2 v3 v4 : Option Value) : List (Str × Option Value) :=
  [(Str.ofString "script", some (.ref d)), (Str.ofString "draws", some (.ref D)), (Str.ofString "size", some (.int (k : Int) tz)), (Str.ofString "texts", some (.ref TX)), (Str.ofString "_", v1), (Str.ofString "read", v2), (Str.ofString "fed", v3), (Str.ofString "due", v4)]
end

/-! ## part LT7 -/
section
open PySem PySem.W PyProof.Rows PySem.Calls
theorem find_hex : ∀ c ∈ figs, Txt.find (Str.ofString "0123456789ABCDEF") (Txt.upper (S [c])) = (hexV c : Int) := by decide +kernel
theorem gone_push {h : Heap} {ob : Obj} {V : Addr} (hV : (h.push ob).get? V = none) : h.get? V = none := by
  cases q : h.get? V with
  | none => rfl
  | some o => rw [Heap.get?_push_of_some _ q] at hV; cases hV
theorem strTab_at {w : World} {h h' : Heap} {V : Addr} {D : List (PyData × PyData)} (T : StrTab PR w h V D) (hk : ∀ o, h.get? V = some o → h'.get? V = some o) : StrTab PR w h' V D := by
  obtain ⟨h1, kvs, hD, hf⟩ := T
  exact ⟨h1, kvs, hD.at hk, hf⟩
section
variable {w : World} {A : Around} {s : Shared}
set_option maxRecDepth 100000
set_option maxHeartbeats 8000000

theorem tail7 {d D TX Sd L : Addr} {h : Heap} {tk k : Nat} {tz : Tok} {v1 v2 v3 v4 : Option Value} {sg : List Nat} {xs us : List Value} {oX oS oG o1 o2 : Obj} (R : Rd 4 w A s.heap) (hsg : Sg2 sg ∨ Sg3 sg)
    (hus : StrsAre us (sg.map fun c => S [c])) (hoS : oS.cls = .type "list" ∧ ∃ n, oS.data = .seq (List.toArray us) n) (hoX : oX.cls = .type "list" ∧ ∃ n, oX.data = .seq (List.toArray xs) n) (dG : oG.data = .cell (some (.ref Sd))) (d2 : o2.data = .cell none)
    (F : Fr s.heap L h (mp (lawFr d D k tz TX v1 v2 v3 v4)))
    (N : News s.heap L h [(TX, oX), (L + 1 + 1, oG), (Sd, oS), (L + 1 + 1 + 1, o2), (L + 1 + 1 + 1 + 1, o1)])
    (H : ∀ h' tk' V oV o2', Fr s.heap L h' (mp (lawFr d D k tz TX v1 v2 v3 v4)) → News s.heap L h' [(V, oV), (L + 1 + 1 + 1, o2'), (TX, oX), (L + 1 + 1, oG), (Sd, oS), (L + 1 + 1 + 1 + 1, o1)] → o2'.data = .cell (some (.ref V)) → StrTab PR w h' V (valD sg) →
      wpAny (model PR w) (A.deeper (lawEnv L)) (execs law8 (lawEnv L)) (LawPost s) (fun _ _ => False) { s with heap := h', toks := tk' }) :
    wpAny (model PR w) (A.deeper (lawEnv L)) (execs law7 (lawEnv L)) (LawPost s) (fun _ _ => False) { s with heap := h, toks := tk } := by
  have RR := R
  obtain ⟨X, ⟨p, loose, mg, mb, T⟩, hA, hu, hh⟩ := R
  revert H
  dsimp only [lawFr] at F
  rw [law7_c]
  dsimp only [hdS, law7, tlS, lawEnv, lawDef, bodyD, scopeD, PySem.Challenge.pw_rs0071_01, lastD]
  intro H
  try k_fold
  k_steps
  unfold Stop
  refine wpAny_Assign_Name (hs := rfl) ?_
  refine dict_eval (strKind PR w) (ItemKind.lift ItemKind.str pzF) (fun v k => ∃ a, (∃ t, v = Value.str a t) ∧ k = a) (fun v y => ∃ a, (∃ t, v = Value.str a t) ∧ Carried y (dF a)) rfl (by decide) rfl (by decide) rfl ?_
  k_steps
  unfold Stop
  (rename Fr _ _ _ _ => F'); (rename News _ _ _ _ => N')
  have hSl := isL_of hoS (N' _ (.tail _ (.tail _ (.head _)))).1
  have hSlt := Heap.lt_size (N' _ (.tail _ (.tail _ (.head _)))).1
  refine wpAny_pyIter_list hSl ?_
  have hRd := AllRd.of RR F'
  have hul := hus.len_eq
  rw [List.length_map] at hul
  have hs23 : sg.length ≤ 3 := by rcases hsg with ⟨f, _, rfl⟩ | ⟨f, x, _, rfl, _⟩ <;> simp
  have hsl : sizeLine = 16777216 := rfl
  refine ⟨_, _, _, us.length, _, _, rfl, walks_lt (Walks.list (A := A.deeper _) hh _ _ (Nat.ne_of_lt hSlt) us.toArray), by omega, ⟨⟨_, Heap.get?_push_size _ rfl, rfl, rfl⟩, hSl.push _⟩, ?_, ⟨?_, ?_, ?_⟩, ?_⟩
  · intro b hb
    show b < (Heap.push _ _).objs.size
    rw [Heap.size_push]
    rcases List.mem_cons.mp hb with rfl | hb
    · exact Nat.lt_succ_self _
    · rw [List.mem_singleton.mp hb]; exact Nat.lt_succ_of_lt hSlt
  · rintro C i v s₃ m₃ E' ⟨hi, hv⟩ hn hm hk
    have kk := kept_push hk
    have hRd3 := hRd.keeps kk
    obtain ⟨X3, ⟨p3, loose3, mg3, mb3, T3⟩, _, _, _⟩ := hRd3 default
    have hv' : us[i]? = some v := by simpa using hv
    obtain ⟨x, kx, hx, rfl⟩ := strs_get hus hv'
    rw [List.getElem?_map] at hx
    obtain ⟨c, hc, rfl⟩ := Option.map_eq_some_iff.mp hx
    clear hk
    refine wpAny_tests_one ?_
    k_steps
    unfold Stop
    refine Ok.useK (c_containsE (c := c) (Rd.less (hRd3 _) (by decide)) figs_S rfl (by decide)) ?_
    rintro _ h₅ tk₅ hk₅ rfl
    k_steps
    · show _ = pzF (S [c])
      rw [pzF_S]; simp
    · exact ⟨_, _, rfl, hk₅⟩
  · rintro C i v s₃ m₃ E' ⟨hi, hv⟩ hp hn hm hk
    have kk := kept_push hk
    have hRd3 := hRd.keeps kk
    obtain ⟨X3, ⟨p3, loose3, mg3, mb3, T3⟩, _, _, _⟩ := hRd3 default
    have hv' : us[i]? = some v := by simpa using hv
    obtain ⟨x, kx, hx, rfl⟩ := strs_get hus hv'
    clear hk
    k_steps
    · exact strKind_is _ _ _ _
    · exact ⟨_, _, rfl, fun _ _ e => e⟩
  · rintro C i v s₃ m₃ E' ⟨hi, hv⟩ hp hn hm hk
    have kk := kept_push hk
    have hRd3 := hRd.keeps kk
    obtain ⟨X3, ⟨p3, loose3, mg3, mb3, T3⟩, _, _, _⟩ := hRd3 default
    have hv' : us[i]? = some v := by simpa using hv
    obtain ⟨x, kx, hx, rfl⟩ := strs_get hus hv'
    rw [List.getElem?_map] at hx
    obtain ⟨c, hc, rfl⟩ := Option.map_eq_some_iff.mp hx
    have hcS : Str.length (S [c]) ≤ 10 := by rw [S_len]; simp
    have hcf : c ∈ figs := of_decide_eq_true (show pzF (S [c]) = true from hp)
    clear hk
    k_steps
    · rw [find_hex c hcf]
      exact .int _ _
    · exact ⟨_, _, rfl, fun _ _ e => e⟩
  · rintro V h' tk' kvs vs hV hV' hD hlen hP hst hk
    have kk := kept_push hk
    have F₂ := F'.keeps kk
    have N₂ := News.kept N' kk
    have hvs : vs = us := by
      refine List.ext_getElem? fun j => ?_
      by_cases hj : j < us.length
      · have h1 : vs[j]? = some vs[j] := by simp [hlen, hj]
        have h2 := (hP j _ h1).2
        rw [h1, ← h2]; simp
      · rw [List.getElem?_eq_none (by omega), List.getElem?_eq_none (by omega)]
    subst hvs
    have hfp := storedAll_flat (K := ItemKind.str) (enc := PyData.str) (kf := id) (d := dF) PyProof.V.same_str hst _ ((strs_areOf hus).filter pzF)
    have hVh := gone_push hV'
    have hVn : s.heap.get? V = none := by
      cases q : s.heap.get? V with
      | none => rfl
      | some o => exact absurd ((F'.keep _ _ q).symm.trans hVh) (by simp)
    have hV1 : V ≠ 1 := by
      have h1 := Heap.lt_size (X _ _ (show (Mine.hd.heap_39 w.params).lookup 129 = some _ by k_is))
      have h2 := F'.above
      have h3 := F'.ns.lt
      have h4 : h.objs.size ≤ V := Nat.le_trans (by rw [Heap.size_push]; exact Nat.le_succ _) hV
      have h5 := Nat.lt_of_lt_of_le (Nat.lt_trans (Nat.lt_of_lt_of_le h1 h2) h3) h4
      rintro rfl
      exact absurd h5 (by decide)
    have hT : StrTab PR w h' V (valD sg) := ⟨beq_eq_false_iff_ne.mpr hV1, kvs, hD, hfp⟩
    obtain ⟨oV, es, ep, hoV, hD'⟩ := id hD
    have hVL : V ≠ L := by
      rintro rfl
      obtain ⟨o, _, _, ho, _⟩ := F'.ns
      exact absurd (ho.symm.trans hVh) (by simp)
    have hVold : ∀ p ∈ [(TX, oX), (L + 1 + 1, oG), (Sd, oS), (L + 1 + 1 + 1, o2), (L + 1 + 1 + 1 + 1, o1)], p.1 ≠ V := by
      intro p hp q
      have e := (N' p hp).1
      rw [q] at e
      exact absurd (e.symm.trans hVh) (by simp)
    have N₃ : News s.heap L h' ((L + 1 + 1 + 1, o2) :: [(V, oV), (TX, oX), (L + 1 + 1, oG), (Sd, oS), (L + 1 + 1 + 1 + 1, o1)]) := News.pick N₂ (by repeat (first | exact List.Mem.head _ | apply List.Mem.tail)) (List.forall_mem_cons.mpr ⟨⟨hoV, hVL, hVn⟩, (News.pick N₂ (by repeat (first | exact List.Mem.head _ | apply List.Mem.tail)) (News.pick N₂ (by repeat (first | exact List.Mem.head _ | apply List.Mem.tail)) (News.pick N₂ (by repeat (first | exact List.Mem.head _ | apply List.Mem.tail)) (News.pick N₂ (by repeat (first | exact List.Mem.head _ | apply List.Mem.tail)) News.nil))))⟩)
    have ap1 := apart_lc N₃ (.tail _ (.tail _ (.tail _ (.tail _ (.head _))))) (.head _) hoS d2
    have ap2 := apart_lc N₃ (.tail _ (.tail _ (.head _))) (.head _) hoX d2
    have ap3 : (L + 1 + 1 + 1 : Nat) ≠ V := hVold (L + 1 + 1 + 1, o2) (by repeat (first | exact List.Mem.head _ | apply List.Mem.tail))
    refine stC F₂ N₃ (List.forall_mem_cons.mpr ⟨Ne.symm ap3, (List.forall_mem_cons.mpr ⟨ap2, (List.forall_mem_cons.mpr ⟨Nat.ne_of_lt (Nat.lt_succ_self (L + 1 + 1)), (List.forall_mem_cons.mpr ⟨ap1, (List.forall_mem_cons.mpr ⟨Nat.ne_of_gt (Nat.lt_succ_self (L + 1 + 1 + 1)), (fun _ h => nomatch h)⟩)⟩)⟩)⟩)⟩) d2 rfl rfl rfl ?_
    · intro h₄ o₄ F₄ N₄ d₄
      refine H h₄ tk' V oV o₄ F₄ (News.pick N₄ (by repeat (first | exact List.Mem.head _ | apply List.Mem.tail)) (News.pick N₄ (by repeat (first | exact List.Mem.head _ | apply List.Mem.tail)) (News.pick N₄ (by repeat (first | exact List.Mem.head _ | apply List.Mem.tail)) (News.pick N₄ (by repeat (first | exact List.Mem.head _ | apply List.Mem.tail)) (News.pick N₄ (by repeat (first | exact List.Mem.head _ | apply List.Mem.tail)) (News.pick N₄ (by repeat (first | exact List.Mem.head _ | apply List.Mem.tail)) News.nil)))))) d₄ ?_
      · refine strTab_at hT fun o e => ?_
        rw [hoV] at e
        injection e with e
        subst e
        exact (N₄ _ (.tail _ (.head _))).1
end
end

/-! ## part PC1 -/
section
open PySem PySem.W PyProof.Rows PySem.Calls
/-- the signs of φ behave as the signs themselves -/
structure Cls (φ : Nat → Nat) (sg : List Nat) : Prop where
  eq : ∀ c ∈ sg, (φ c = 61 ↔ c = 61)
  hex : ∀ c ∈ sg, (φ c ∈ hexL ↔ c ∈ hexL)
  sp : ∀ c ∈ sg, Unicode.isSpace (φ c) = Unicode.isSpace c
  nl : ∀ c ∈ sg, (φ c = 10 ↔ c = 10)
  lf : ∀ x ∈ sg, ∀ y ∈ sg, x ∈ hexL → y ∈ hexL → (16 * hexV (φ x) + hexV (φ y) = 10 ↔ 16 * hexV x + hexV y = 10)
noncomputable def Rl (l l' : List Nat) : Prop := l.length = l'.length ∧ (l.getLast? = some 10 ↔ l'.getLast? = some 10)
theorem Rl.nil : Rl [] [] := ⟨rfl, Iff.rfl⟩
theorem Rl.one {c c' : Nat} (h : c = 10 ↔ c' = 10) : Rl [c] [c'] := ⟨rfl, by simpa using h⟩
theorem Rl.cons {c c' : Nat} {r r' : List Nat} (h : c = 10 ↔ c' = 10) (hr : Rl r r') : Rl (c :: r) (c' :: r') := by
  refine ⟨by simp [hr.1], ?_⟩
  match r, r', hr with
  | [], [], _ => simpa using h
  | a :: r, b :: r', hr => rw [List.getLast?_cons_cons, List.getLast?_cons_cons]; exact hr.2
  | [], b :: r', hr => exact absurd hr.1 (by simp)
  | a :: r, [], hr => exact absurd hr.1 (by simp)
theorem go_cls {φ : Nat → Nat} {sg : List Nat} (C : Cls φ sg) (n : Nat) : ∀ l : List Nat, l.length ≤ n → (∀ c ∈ l, c ∈ sg) → Rl (go (l.map φ)) (go l) := by
  induction n with
  | zero => intro l h _; match l, h with | [], _ => rw [List.map_nil, go_nil]; exact Rl.nil
  | succ n ih =>
    intro l h hl
    match l, h, hl with
    | [], _, _ => rw [List.map_nil, go_nil]; exact Rl.nil
    | c :: r, h, hl =>
      simp only [List.length_cons] at h
      have hc := hl c (.head _)
      have hr : ∀ d ∈ r, d ∈ sg := fun d hd => hl d (.tail _ hd)
      rw [List.map_cons]
      by_cases e : c = 61
      · have e' := (C.eq c hc).mpr e
        rw [e', e]
        by_cases h0 : r = []
        · subst h0; rw [List.map_nil, go_end]; exact .nil
        · by_cases hx : ∃ x y r', r = x :: y :: r' ∧ x ∈ hexL ∧ y ∈ hexL
          · obtain ⟨x, y, r', rfl, h1, h2⟩ := hx
            have hxs := hr x (.head _)
            have hys := hr y (.tail _ (.head _))
            rw [List.map_cons, List.map_cons, go_hex h1 h2, go_hex ((C.hex x hxs).mpr h1) ((C.hex y hys).mpr h2)]
            refine .cons (C.lf x hxs y hys h1 h2) ?_
            by_cases h3 : r' = []
            · subst h3; exact .one Iff.rfl
            · rw [if_neg h3, if_neg (by simpa using h3)]
              exact ih r' (by simp only [List.length_cons] at h; omega) fun d hd => hr d (.tail _ (.tail _ hd))
          · rw [go_eq h0 (fun x y r' e q => hx ⟨x, y, r', e, q.1, q.2⟩), go_eq (by simpa using h0) ?_]
            · exact .cons Iff.rfl (ih r (by omega) hr)
            · intro x y r' e q
              match r, e, hr, hx with
              | [], e, _, _ => cases e
              | [a], e, _, _ => cases e
              | a :: b :: r, e, hr, hx =>
                rw [List.map_cons, List.map_cons] at e
                injection e with e1 e2
                injection e2 with e2 e3
                subst e1; subst e2
                exact hx ⟨a, b, r, rfl, (C.hex a (hr a (.head _))).mp q.1, (C.hex b (hr b (.tail _ (.head _)))).mp q.2⟩
      · rw [go_ne e, go_ne (fun q => e ((C.eq c hc).mp q))]
        refine .cons (C.nl c hc) ?_
        by_cases h3 : r = []
        · subst h3; exact .one Iff.rfl
        · rw [if_neg h3, if_neg (by simpa using h3)]
          exact ih r (by omega) hr
theorem drop_cls {φ : Nat → Nat} (p : Nat → Bool) : ∀ l : List Nat, (∀ c ∈ l, p (φ c) = p c) → (l.map φ).dropWhile p = (l.dropWhile p).map φ
  | [], _ => rfl
  | c :: r, h => by
    rw [List.map_cons, List.dropWhile_cons, List.dropWhile_cons, h c (.head _)]
    split
    · exact drop_cls p r fun d hd => h d (.tail _ hd)
    · rfl
theorem rs_cls {φ : Nat → Nat} {sg : List Nat} (C : Cls φ sg) {l : List Nat} (hl : ∀ c ∈ l, c ∈ sg) : rs (l.map φ) = (rs l).map φ := by
  unfold rs
  rw [← List.map_reverse, drop_cls _ _ (fun c hc => C.sp c (hl c (List.mem_reverse.mp hc))), List.map_reverse]
theorem rs_sub {l : List Nat} {c : Nat} (h : c ∈ rs l) : c ∈ l := by
  unfold rs at h
  exact List.mem_reverse.mp ((List.dropWhile_sublist _).subset (List.mem_reverse.mp h))
theorem cut_len {l l' : List Nat} (h : Rl l l') : (cut l).length = (cut l').length := by
  unfold cut
  by_cases e : l'.getLast? = some 10
  · rw [if_pos e, if_pos (h.2.mpr e), List.length_dropLast, List.length_dropLast, h.1]
  · rw [if_neg e, if_neg (fun q => e (h.2.mp q)), h.1]
theorem decL_cls {φ : Nat → Nat} {sg : List Nat} (C : Cls φ sg) {l : List Nat} (hl : ∀ c ∈ l, c ∈ sg) : (decL (l.map φ)).length = (decL l).length := by
  unfold decL outL
  refine cut_len ?_
  by_cases e : l = []
  · subst e; exact .one Iff.rfl
  · rw [if_neg e, if_neg (by simpa using e)]
    exact go_cls C _ l (Nat.le_refl _) hl
/-- what decode makes of a text -/
noncomputable def dec (t : List Nat) : List Nat := if t = [] then [] else decL (rs t)
theorem dec_cls {φ : Nat → Nat} {sg : List Nat} (C : Cls φ sg) {l : List Nat} (hl : ∀ c ∈ l, c ∈ sg) : (dec (l.map φ)).length = (dec l).length := by
  unfold dec
  by_cases e : l = []
  · subst e; rfl
  · rw [if_neg e, if_neg (by simpa using e), rs_cls C hl]
    exact decL_cls C fun c hc => hl c (rs_sub hc)
noncomputable def decF (t : List Nat) : Nat := if t = [] then 0 else let r := rs t; (cut (if r = [] then [10] else goF 6 r)).length
theorem dec_F {t : List Nat} (h : t.length ≤ 6) : (dec t).length = decF t := by
  unfold dec decF decL outL
  by_cases e : t = []
  · rw [if_pos e, if_pos e]; rfl
  · rw [if_neg e, if_neg e, go_F 6 _ (Nat.le_trans (rs_len t) h)]
end

/-! ## part LT8 -/
section
open PySem PySem.W PyProof.Rows PySem.Calls
theorem strs_by {f : List Nat → List Nat} : ∀ {vs : List Value} {tt : List (List Nat)}, vs.length = tt.length → (∀ (i : Nat) y, vs[i]? = some y → ∃ t k, tt[i]? = some t ∧ y = Value.str (S (f t)) k) → StrsAre vs ((tt.map f).map S)
  | [], [], _, _ => .nil
  | v :: vs, t :: tt, h, hy => by
    obtain ⟨t', k, ht, rfl⟩ := hy 0 v rfl
    injection ht with ht
    subst ht
    exact .cons _ _ (strs_by (by simpa using h) fun i y h => by simpa using hy (i + 1) y (by simpa using h))
section
variable {w : World} {A : Around} {s : Shared}
set_option maxRecDepth 100000
set_option maxHeartbeats 8000000

theorem tail8 {d D TX L : Addr} {h : Heap} {tk k : Nat} {tz : Tok} {v1 v2 v3 v4 : Option Value} {tt : List (List Nat)} {xs : List Value} {oX : Obj} {news : List (Addr × Obj)} (R : Rd 4 w A s.heap)
    (htt : ∀ t ∈ tt, t.length ≤ 10 ∧ ∀ c ∈ t, okC c) (htl : tt.length ≤ 1000) (hoX : oX.cls = .type "list" ∧ ∃ n, oX.data = .seq (List.toArray xs) n) (hxs : StrsAre xs (tt.map S))
    (F : Fr s.heap L h (mp (lawFr d D k tz TX v1 v2 v3 v4)))
    (N : News s.heap L h news) (hX : (TX, oX) ∈ news)
    (H : ∀ h' tk' Y oY ys, Fr s.heap L h' (mp (lawFr d D k tz TX v1 (some (.ref Y)) v3 v4)) → News s.heap L h' ((Y, oY) :: news) → (oY.cls = .type "list" ∧ ∃ n, oY.data = .seq (List.toArray ys) n) → StrsAre ys ((tt.map dec).map S) →
      wpAny (model PR w) (A.deeper (lawEnv L)) (execs law9 (lawEnv L)) (LawPost s) (fun _ _ => False) { s with heap := h', toks := tk' }) :
    wpAny (model PR w) (A.deeper (lawEnv L)) (execs law8 (lawEnv L)) (LawPost s) (fun _ _ => False) { s with heap := h, toks := tk } := by
  have RR := R
  obtain ⟨X, ⟨p, loose, mg, mb, T⟩, hA, hu, hh⟩ := R
  revert H
  dsimp only [lawFr] at F
  rw [law8_c]
  dsimp only [hdS, law7, law8, tlS, lawEnv, lawDef, bodyD, scopeD, PySem.Challenge.pw_rs0071_01, lastD]
  intro H
  try k_fold
  k_steps
  unfold Stop
  refine comp_assign (fun i y _ => ∃ t k, tt[i]? = some t ∧ y = .str (S (dec t)) k) (fun _ _ _ _ h _ => h) rfl rfl (by decide) rfl (by decide) rfl rfl rfl ?_
  k_steps
  unfold Stop
  (rename Fr _ _ _ _ => F'); (rename News _ _ _ _ => N')
  have hXl := isL_of hoX (N' _ hX).1
  have hXlt := Heap.lt_size (N' _ hX).1
  refine wpAny_pyIter_list hXl ?_
  have hRd := AllRd.of RR F'
  have hxl := hxs.len_eq
  rw [List.length_map] at hxl
  refine ⟨_, _, _, _, _, _, rfl, Itr.list (A := A.deeper _) hh _ TX (Nat.ne_of_lt hXlt) xs, by omega, ⟨⟨_, Heap.get?_push_size _ rfl, rfl, rfl⟩, hXl.push _⟩, ?_, ?_, (F'.push _).ns, ?_, ?_⟩
  · intro b hb
    show b < (Heap.push _ _).objs.size
    rw [Heap.size_push]
    rcases List.mem_cons.mp hb with rfl | hb
    · exact Nat.lt_succ_self _
    · rw [List.mem_singleton.mp hb]; exact Nat.lt_succ_of_lt hXlt
  · exact Nat.ne_of_lt F'.ns.lt
  · intro C i v s₃ m₃ t hC hi hv ht ht' hn hm hk
    have kk := kept_push' hk
    have hRd3 := hRd.keeps kk
    obtain ⟨X3, ⟨p3, loose3, mg3, mb3, T3⟩, _, _, _⟩ := hRd3 default
    obtain ⟨x, kx, hx, rfl⟩ := strs_get hxs hv
    rw [List.getElem?_map] at hx
    obtain ⟨c, hc, rfl⟩ := Option.map_eq_some_iff.mp hx
    have hcm := htt c (List.mem_of_getElem? hc)
    clear hk
    k_steps
    unfold Stop
    refine Ok.useK (c_dec (Rd.less (hRd3 _) (by decide)) hcm.1 hcm.2) ?_
    rintro _ h₅ tk₅ hk₅ ⟨kz, rfl⟩
    k_steps
    · exact ⟨_, _, rfl, hk₅⟩
  · intro Y h₅ tk₅ ys hY hl5 hsz hRR htk hns hk
    rw [show ys = ys.toList.toArray from by simp] at hl5
    obtain ⟨F₅, N₅, hYL, hY0, hkk, hHY⟩ := after_comp F' N' hns (fun b o hb hb' e => hk b o hb (fun q => hb' (List.mem_singleton.mpr q)) e) hY hl5
    obtain ⟨oY, hoY, N₆⟩ := news_list N₅ hl5 hYL hY0
    refine H h₅ tk₅ Y oY ys.toList F₅ N₆ hoY (strs_by (f := dec) (by simpa using hsz.trans hxl) fun i y hy => ?_)
    obtain ⟨t, kt, ht, rfl⟩ := hRR i y (by simpa using hy)
    exact ⟨t, kt, ht, rfl⟩
end
end

/-! ## part EqS -/
section
open PySem PySem.W PyProof.Rows PySem.Calls
theorem layS : ∀ ns : List Str, (∀ x ∈ ns, PyData.strOk x = true) → PyData.canLayAll0 (ns.map PyData.str) = true
  | [], _ => rfl
  | x :: r, h => by simp [PyData.canLayAll0, PyData.canLay0, layS r fun y hy => h y (.tail _ hy), h x (.head _)]
theorem depthS : ∀ ns : List Str, PyData.depthAll (ns.map PyData.str) = 0
  | [] => rfl
  | _ :: r => by simp [PyData.depthAll, PyData.depth, depthS r]
theorem shapedS (ns : List Str) (h : ∀ x ∈ ns, PyData.strOk x = true) : SeqAt.shaped (.list (ns.map PyData.str)) = true := by
  simp [SeqAt.shaped, PyData.canLay0, PyData.depth, layS ns h, depthS]
theorem sameS : ∀ ns ms : List Str, PySem.Spec.sameAll (ns.map PyData.str) (ms.map PyData.str) = decide (ns = ms)
  | [], [] => by simp [PySem.Spec.sameAll]
  | [], _ :: _ => by simp [PySem.Spec.sameAll]
  | _ :: _, [] => by simp [PySem.Spec.sameAll]
  | a :: r, b :: t => by
    simp only [List.map_cons, PySem.Spec.sameAll, PyProof.V.same_str, sameS r t]
    by_cases h : a = b <;> by_cases h' : r = t <;> simp [h, h']
theorem carriedS {vs : List Value} {xs : List Str} (h : StrsAre vs xs) : CarriedAll vs (xs.map PyData.str) := by
  induction h with
  | nil => exact .nil
  | cons x t _ ih => exact .cons (.str x t) ih
section
variable {prog : Program} {w : World} {A : Around} {E : Value → Shared → Prop} {s : Shared} {a b : Addr} {xs ys : List Value} {ns ms : List Str} {Q : Value → Shared → Prop}
theorem ne_strs (ha : s.heap.IsList a xs.toArray) (hb : s.heap.IsList b ys.toArray) (hi : StrsAre xs ns) (hj : StrsAre ys ms) (ho : ∀ x ∈ ns, PyData.strOk x = true) (ho' : ∀ x ∈ ms, PyData.strOk x = true) (hu : A.units + 64 < cLine) (h : Q (.bool (!decide (ns = ms))) s) :
    wpAny (model prog w) A (compareOp .NotEq (.ref a) (.ref b)) Q E s :=
  ne_dataH_same (reads_newData ha (carriedS hi)) (reads_newData hb (carriedS hj)) (shapedS _ ho) (shapedS _ ho') hu (SeqAt.noMix_of_shape (.list .str) rfl _ _ (list_map_has fun _ => rfl) (list_map_has fun _ => rfl)) (by
    have e : PySem.Spec.same (.list (ns.map PyData.str)) (.list (ms.map PyData.str)) = decide (ns = ms) := by simp only [PySem.Spec.same]; exact sameS ns ms
    rw [e]; exact h)
end
theorem go_small (n : Nat) : ∀ l : List Nat, l.length ≤ n → (∀ c ∈ l, c < 256) → ∀ c ∈ go l, c < 256 := by
  induction n with
  | zero => intro l h _; match l, h with | [], _ => rw [go_nil]; intro c hc; cases hc
  | succ n ih =>
    intro l h hl
    match l, h, hl with
    | [], _, _ => rw [go_nil]; intro c hc; cases hc
    | c :: r, h, hl =>
      simp only [List.length_cons] at h
      have hr : ∀ d ∈ r, d < 256 := fun d hd => hl d (.tail _ hd)
      have hend : ∀ r' : List Nat, r'.length ≤ n → (∀ d ∈ r', d < 256) → ∀ d ∈ (if r' = [] then [10] else go r'), d < 256 := by
        intro r' h1 h2 d hd
        split at hd
        · rw [List.mem_singleton.mp hd]; decide
        · exact ih r' h1 h2 d hd
      by_cases e : c = 61
      · subst e
        by_cases h0 : r = []
        · subst h0; rw [go_end]; intro c hc; cases hc
        · by_cases hx : ∃ x y r', r = x :: y :: r' ∧ x ∈ hexL ∧ y ∈ hexL
          · obtain ⟨x, y, r', rfl, h1, h2⟩ := hx
            rw [go_hex h1 h2]
            intro d hd
            rcases List.mem_cons.mp hd with rfl | hd
            · have := hexV_le x h1; have := hexV_le y h2; omega
            · exact hend r' (by simp only [List.length_cons] at h; omega) (fun d hd => hr d (.tail _ (.tail _ hd))) d hd
          · rw [go_eq h0 (fun x y r' e q => hx ⟨x, y, r', e, q.1, q.2⟩)]
            intro d hd
            rcases List.mem_cons.mp hd with rfl | hd
            · decide
            · exact ih r (by omega) hr d hd
      · rw [go_ne e]
        intro d hd
        rcases List.mem_cons.mp hd with rfl | hd
        · exact hl _ (.head _)
        · exact hend r (by omega) hr d hd
theorem dec_small {l : List Nat} (h : ∀ c ∈ l, okC c) : ∀ c ∈ dec l, c < 256 := by
  have h' : ∀ c ∈ rs l, c < 256 := fun c hc => by rcases h c (rs_sub hc) with h | h <;> omega
  unfold dec
  intro c hc
  split at hc
  · cases hc
  · have hc' : c ∈ outL (rs l) := by
      unfold decL cut at hc
      split at hc
      · exact List.dropLast_subset _ hc
      · exact hc
    unfold outL at hc'
    split at hc'
    · rw [List.mem_singleton.mp hc']; decide
    · exact go_small _ _ (Nat.le_refl _) h' c hc'
theorem dec_ok {tt : List (List Nat)} (h : ∀ t ∈ tt, ∀ c ∈ t, okC c) : ∀ x ∈ (tt.map dec).map S, PyData.strOk x = true := by
  intro x hx
  obtain ⟨y, hy, rfl⟩ := List.mem_map.mp hx
  obtain ⟨t, ht, rfl⟩ := List.mem_map.mp hy
  have := dec_small (h t ht)
  unfold PyData.strOk S
  simp only [List.all_toArray, List.all_eq_true, decide_eq_true_eq]
  intro c hc
  have := this c hc
  omega
theorem dec_eq (t : List Nat) : dec t = decL (rs t) := by
  unfold dec
  by_cases e : t = []
  · subst e; rfl
  · rw [if_neg e]
end

/-! ## part LT9 -/
section
open PySem PySem.W PyProof.Rows PySem.Calls
local macro_rules | `(tactic| walk_at "eval ListComp") => `(tactic| (refine stop_ ?_))
section
variable {w : World} {A : Around} {s : Shared}
set_option maxRecDepth 100000
set_option maxHeartbeats 8000000

theorem tail9 {d D TX Y V L : Addr} {h : Heap} {tk k : Nat} {tz : Tok} {v1 v3 v4 : Option Value} {tt : List (List Nat)} {xs ys : List Value} {oX oY oV oC : Obj} {DD : List (PyData × PyData)} {news : List (Addr × Obj)} (R : Rd 4 w A s.heap)
    (htt : ∀ t ∈ tt, t.length ≤ 10 ∧ ∀ c ∈ t, okC c) (hDD : ∀ t ∈ tt, ∀ c ∈ t, PySem.Spec.lookup (.str (S [c])) DD = if c ∈ hexL then some (.int (hexV c)) else none) (htl : tt.length ≤ 1000)
    (hoX : oX.cls = .type "list" ∧ ∃ n, oX.data = .seq (List.toArray xs) n) (hxs : StrsAre xs (tt.map S)) (hoY : oY.cls = .type "list" ∧ ∃ n, oY.data = .seq (List.toArray ys) n) (hys : StrsAre ys ((tt.map dec).map S))
    (dC : oC.data = .cell (some (.ref V))) (hT : StrTab PR w h V DD)
    (F : Fr s.heap L h (mp (lawFr d D k tz TX v1 (some (.ref Y)) v3 v4)))
    (N : News s.heap L h news) (hX : (TX, oX) ∈ news) (hY : (Y, oY) ∈ news) (hV : (V, oV) ∈ news) (hC : (L + 1 + 1 + 1, oC) ∈ news)
    (H : ∀ h' tk', Fr s.heap L h' (mp (lawFr d D k tz TX v1 (some (.ref Y)) v3 v4)) → News s.heap L h' news → StrTab PR w h' V DD →
      wpAny (model PR w) (A.deeper (lawEnv L)) (execs law10 (lawEnv L)) (LawPost s) (fun _ _ => False) { s with heap := h', toks := tk' }) :
    wpAny (model PR w) (A.deeper (lawEnv L)) (execs law9 (lawEnv L)) (LawPost s) (fun _ _ => False) { s with heap := h, toks := tk } := by
  have RR := R
  obtain ⟨X, ⟨p, loose, mg, mb, T⟩, _, hu, hh⟩ := R
  revert H
  dsimp only [lawFr] at F
  rw [law9_c]
  dsimp only [hdS, law7, law8, law9, tlS, lawEnv, lawDef, bodyD, scopeD, PySem.Challenge.pw_rs0071_01, lastD]
  intro H
  refine cutS (fun s' => ∃ h' tk', s' = { s with heap := h', toks := tk' } ∧ Fr s.heap L h' (mp (lawFr d D k tz TX v1 (some (.ref Y)) v3 v4)) ∧ News s.heap L h' news ∧ StrTab PR w h' V DD) ?_ (fun s' hs => by obtain ⟨h', tk', rfl, F₁, N₁, T₁⟩ := hs; exact H h' tk' F₁ N₁ T₁)
  try k_fold
  k_steps
  unfold Stop
  refine comp_eval (fun i y _ => ∃ t k, tt[i]? = some t ∧ y = .str (S (dec t)) k) (fun _ _ _ _ h _ => h) rfl (by decide) rfl (by decide) rfl ?_
  k_steps
  unfold Stop
  (rename Fr _ _ _ _ => F'); (rename News _ _ _ _ => N')
  have hXl := isL_of hoX (N' _ hX).1
  have hXlt := Heap.lt_size (N' _ hX).1
  refine wpAny_pyIter_list hXl ?_
  have hRd := AllRd.of RR F'
  have hcell := (N' _ hC).1
  have hxl := hxs.len_eq
  rw [List.length_map] at hxl
  refine ⟨_, _, _, _, _, rfl, Itr.list (A := A.deeper _) hh _ TX (Nat.ne_of_lt hXlt) xs, by omega, ⟨⟨_, Heap.get?_push_size _ rfl, rfl, rfl⟩, hXl.push _⟩, ?_, ?_, ?_⟩
  · intro b hb
    show b < (Heap.push _ _).objs.size
    rw [Heap.size_push]
    rcases List.mem_cons.mp hb with rfl | hb
    · exact Nat.lt_succ_self _
    · rw [List.mem_singleton.mp hb]; exact Nat.lt_succ_of_lt hXlt
  · intro C i v s₃ m₃ t hC hi hv ht ht' hn hm hk
    have kk := kept_push' hk
    have hRd3 := hRd.keeps kk
    obtain ⟨X3, ⟨p3, loose3, mg3, mb3, T3⟩, _, _, _⟩ := hRd3 default
    obtain ⟨x, kx, hx, rfl⟩ := strs_get hxs hv
    rw [List.getElem?_map] at hx
    obtain ⟨c, hc, rfl⟩ := Option.map_eq_some_iff.mp hx
    have hcm := htt c (List.mem_of_getElem? hc)
    have hcD := hDD c (List.mem_of_getElem? hc)
    have hcell3 := kk _ _ hcell
    have hT3 := strTab_at hT fun o e => kk _ _ e
    clear hk
    k_steps
    unfold Stop
    refine Ok.useK (c_read (Rd.less (hRd3 _) (by decide)) hcm.1 hcm.2 hT3 hcD) ?_
    rintro _ h₅ tk₅ hk₅ ⟨kz, rfl⟩
    rw [← dec_eq c]
    k_steps
    · exact ⟨_, _, rfl, hk₅⟩
  · intro Z h₅ tk₅ zs hZ hl5 hsz hRR htk hk
    rw [show zs = zs.toList.toArray from by simp] at hl5
    have kk := kept_push' hk
    have hzs : StrsAre zs.toList ((tt.map dec).map S) := strs_by (f := dec) (by simpa using hsz.trans hxl) fun i y hy => by
      obtain ⟨t, kt, ht, rfl⟩ := hRR i y (by simpa using hy)
      exact ⟨t, kt, ht, rfl⟩
    have F₅ := F'.keeps kk
    have N₅ := News.kept N' kk
    have hT5 := strTab_at hT fun o e => kk _ _ e
    have hYl := isL_of hoY (N₅ _ hY).1
    have hok := dec_ok fun t ht => (htt t ht).2
    refine ne_strs hYl hl5 hys hzs hok hok ?_ ?_
    · show A.units + 3 + 64 < cLine
      have : cLine = 9900 := rfl
      omega
    rw [decide_eq_true rfl]
    clear F' N'
    k_steps
    unfold Stop
    (rename Fr _ _ _ _ => F'); (rename News _ _ _ _ => N')
    exact CutP.mk ⟨_, _, rfl, F', N', hT5⟩
end
end

/-! ## part LT10 -/
section
open PySem PySem.W PyProof.Rows PySem.Calls
theorem dec_len (t : List Nat) : (dec t).length ≤ t.length + 1 := by
  rw [dec_eq]
  have h1 := outL_len (rs t)
  have h2 := rs_len t
  have h3 : (cut (outL (rs t))).length ≤ (outL (rs t)).length := by
    unfold cut; split
    · rw [List.length_dropLast]; omega
    · exact Nat.le_refl _
  unfold decL
  omega
theorem sizes_by {tk : Nat} : ∀ {vs : List Value} {tt : List (List Nat)}, vs.length = tt.length → (∀ (i : Nat) y, vs[i]? = some y → ∃ t k, tt[i]? = some t ∧ y = Value.int ((dec t).length : Int) k ∧ 0 < k ∧ k < tk) →
    ∃ ns : List (Int × Tok), vs = (ns.map fun p : Int × Tok => Value.int p.1 p.2) ∧ ns.map Prod.fst = tt.map (fun t => ((dec t).length : Int)) ∧ ∀ p ∈ ns, 0 < p.2 ∧ p.2 < tk
  | [], [], _, _ => ⟨[], rfl, rfl, by simp⟩
  | v :: vs, t :: tt, h, hy => by
    obtain ⟨t', k, ht, rfl, h1, h2⟩ := hy 0 v rfl
    injection ht with ht
    subst ht
    obtain ⟨ns, h3, h4, h5⟩ := sizes_by (vs := vs) (tt := tt) (by simpa using h) fun i y h => by simpa using hy (i + 1) y (by simpa using h)
    refine ⟨(((dec t).length : Int), k) :: ns, by rw [h3]; rfl, by rw [List.map_cons, h4]; rfl, ?_⟩
    intro p hp
    rcases List.mem_cons.mp hp with rfl | hp
    · exact ⟨h1, h2⟩
    · exact h5 p hp
section
variable {w : World} {A : Around} {s : Shared}
set_option maxRecDepth 100000
set_option maxHeartbeats 8000000

theorem tail10 {d D TX Y L : Addr} {h : Heap} {tk k : Nat} {tz : Tok} {v1 v3 v4 : Option Value} {tt : List (List Nat)} {ys : List Value} {oY oZ : Obj} {news : List (Addr × Obj)} (R : Rd 4 w A s.heap)
    (htt : ∀ t ∈ tt, t.length ≤ 10) (htl : tt.length ≤ 1000)
    (hoY : oY.cls = .type "list" ∧ ∃ n, oY.data = .seq (List.toArray ys) n) (hys : StrsAre ys ((tt.map dec).map S))
    (dZ : oZ.data = .cell none)
    (F : Fr s.heap L h (mp (lawFr d D k tz TX v1 (some (.ref Y)) v3 v4)))
    (N : News s.heap L h ((L + 1 + 1 + 1 + 1, oZ) :: news)) (hY : (Y, oY) ∈ news) (hoff : ∀ p ∈ news, p.1 ≠ L + 1 + 1 + 1 + 1)
    (H : ∀ h' tk' Z oS oZ' (ns : List (Int × Tok)), Fr s.heap L h' (mp (lawFr d D k tz TX v1 (some (.ref Y)) v3 v4)) → News s.heap L h' ((L + 1 + 1 + 1 + 1, oZ') :: (Z, oS) :: news) → oZ'.data = .cell (some (.ref Z)) →
      (oS.cls = .type "list" ∧ ∃ n, oS.data = .seq (List.toArray (ns.map fun p : Int × Tok => Value.int p.1 p.2)) n) → ns.map Prod.fst = tt.map (fun t => ((dec t).length : Int)) → (∀ p ∈ ns, 0 < p.2 ∧ p.2 < tk') →
      wpAny (model PR w) (A.deeper (lawEnv L)) (execs law11 (lawEnv L)) (LawPost s) (fun _ _ => False) { s with heap := h', toks := tk' }) :
    wpAny (model PR w) (A.deeper (lawEnv L)) (execs law10 (lawEnv L)) (LawPost s) (fun _ _ => False) { s with heap := h, toks := tk } := by
  have RR := R
  obtain ⟨X, ⟨p, loose, mg, mb, T⟩, hA, hu, hh⟩ := R
  revert H
  dsimp only [lawFr] at F
  rw [law10_c]
  dsimp only [hdS, law7, law8, law9, law10, tlS, lawEnv, lawDef, bodyD, scopeD, PySem.Challenge.pw_rs0071_01, lastD]
  intro H
  try k_fold
  k_steps
  unfold Stop
  refine wpAny_Assign_Name (hs := rfl) ?_
  refine comp_eval (fun i y tk => ∃ t k, tt[i]? = some t ∧ y = .int ((dec t).length : Int) k ∧ 0 < k ∧ k < tk) (fun _ _ _ _ h hab => by obtain ⟨t, k, h1, h2, h3, h4⟩ := h; exact ⟨t, k, h1, h2, h3, Nat.lt_of_lt_of_le h4 hab⟩) rfl (by decide) rfl (by decide) rfl ?_
  k_steps
  unfold Stop
  (rename Fr _ _ _ _ => F'); (rename News _ _ _ _ => N')
  have hYl := isL_of hoY (N' _ (.tail _ hY)).1
  have hYlt := Heap.lt_size (N' _ (.tail _ hY)).1
  refine wpAny_pyIter_list hYl ?_
  have hRd := AllRd.of RR F'
  have hyl := hys.len_eq
  rw [List.length_map, List.length_map] at hyl
  refine ⟨_, _, _, _, _, rfl, Itr.list (A := A.deeper _) hh _ Y (Nat.ne_of_lt hYlt) ys, by omega, ⟨⟨_, Heap.get?_push_size _ rfl, rfl, rfl⟩, hYl.push _⟩, ?_, ?_, ?_⟩
  · intro b hb
    show b < (Heap.push _ _).objs.size
    rw [Heap.size_push]
    rcases List.mem_cons.mp hb with rfl | hb
    · exact Nat.lt_succ_self _
    · rw [List.mem_singleton.mp hb]; exact Nat.lt_succ_of_lt hYlt
  · intro C i v s₃ m₃ t hC hi hv ht ht' hn hm hk
    have kk := kept_push' hk
    have hRd3 := hRd.keeps kk
    obtain ⟨X3, ⟨p3, loose3, mg3, mb3, T3⟩, _, _, _⟩ := hRd3 default
    obtain ⟨x, kx, hx, rfl⟩ := strs_get hys hv
    rw [List.getElem?_map] at hx
    obtain ⟨x', hx', rfl⟩ := Option.map_eq_some_iff.mp hx
    rw [List.getElem?_map] at hx'
    obtain ⟨c, hc, rfl⟩ := Option.map_eq_some_iff.mp hx'
    have hcm := dec_len c
    have hcm' := htt c (List.mem_of_getElem? hc)
    clear hk
    k_steps
    unfold Stop
    refine Ok.useK (c_lenhint (Rd.less (hRd3 _) (by decide)) (by omega)) ?_
    rintro _ h₅ tk₅ hk₅ ⟨kz, rfl, hz1, hz2⟩
    k_steps
    · exact ⟨_, _, rfl, hk₅⟩
    · exact hz2
  · intro Z h₅ tk₅ zs hZ hl5 hsz hRR htk hk
    rw [show zs = zs.toList.toArray from by simp] at hl5
    have kk := kept_push' hk
    obtain ⟨ns, hns, hns1, hns2⟩ := sizes_by (vs := zs.toList) (tt := tt) (by simpa using hsz.trans hyl) fun i y hy => hRR i y (by simpa using hy)
    have F₅ := F'.keeps kk
    have N₅ := News.kept N' kk
    have hZL : Z ≠ L := by
      rintro rfl
      obtain ⟨o, _, _, ho, _⟩ := F'.ns
      exact absurd (ho.symm.trans (gone_push hZ)) (by simp)
    have hZ0 : s.heap.get? Z = none := by
      cases q : s.heap.get? Z with
      | none => rfl
      | some o => exact absurd ((F'.keep _ _ q).symm.trans (gone_push hZ)) (by simp)
    have hZc : Z ≠ L + 1 + 1 + 1 + 1 := by
      intro e
      have h1 := (N' _ (.head _)).1
      rw [← e] at h1
      exact absurd (h1.symm.trans (gone_push hZ)) (by simp)
    obtain ⟨oS, hoS, N₆⟩ := news_list N₅ hl5 hZL hZ0
    refine stC F₅ (News.sub N₆ (b := (L + 1 + 1 + 1 + 1, oZ) :: (Z, oS) :: news) ?_) ?_ dZ rfl rfl rfl ?_
    · intro p hp
      simp only [List.mem_cons] at hp ⊢
      rcases hp with rfl | rfl | hp
      · exact .inr (.inl rfl)
      · exact .inl rfl
      · exact .inr (.inr hp)
    · intro p hp
      rcases List.mem_cons.mp hp with rfl | hp
      · exact hZc
      · exact hoff p hp
    · intro h₆ o₆ F₆ N₇ d₆
      rw [hns] at hoS
      exact H h₆ tk₅ Z oS o₆ ns F₆ N₇ d₆ hoS hns1 hns2
end
end

/-! ## part LT11 -/
section
open PySem PySem.W PyProof.Rows PySem.Calls
noncomputable def fedN (sg : List Nat) : Nat := if 48 ∈ sg ∧ (65 ∈ sg ∨ 97 ∈ sg) then 1 else 0
theorem any_S {x : Str} {c : Nat} (hx : x = S [c]) : ∀ sg : List Nat, (List.any (sg.map fun c => S [c]) fun y => y == x) = decide (c ∈ sg)
  | [] => by simp
  | d :: r => by
    subst hx
    rw [List.map_cons, List.any_cons, any_S rfl r]
    by_cases e : d = c
    · subst e; simp
    · have : (S [d] == S [c]) = false := beq_eq_false_iff_ne.mpr fun q => e (S_single q)
      rw [this]
      simp [Ne.symm e]
theorem any_T {x : Str} {c : Nat} {sg : List Nat} (hx : x = S [c]) (h : (List.any (sg.map fun c => S [c]) fun y => y == x) = true) : c ∈ sg := of_decide_eq_true ((any_S hx sg).symm.trans h)
theorem any_F {x : Str} {c : Nat} {sg : List Nat} (hx : x = S [c]) (h : (List.any (sg.map fun c => S [c]) fun y => y == x) = false) : c ∉ sg := of_decide_eq_false ((any_S hx sg).symm.trans h)
theorem zero_S : Str.ofString "0" = S [48] := by decide +kernel
theorem bigA_S : Str.ofString "A" = S [65] := by decide +kernel
theorem litA_S : Str.ofString "a" = S [97] := by decide +kernel
section
variable {w : World} {A : Around} {s : Shared}
set_option maxRecDepth 100000
set_option maxHeartbeats 8000000

theorem tail11 {d D TX Y Sd L : Addr} {h : Heap} {tk k : Nat} {tz : Tok} {v1 v4 : Option Value} {sg : List Nat} {us : List Value} {oS oG : Obj} {news : List (Addr × Obj)} (R : Rd 4 w A s.heap)
    (hsl : sg.length ≤ 3)
    (hoS : oS.cls = .type "list" ∧ ∃ n, oS.data = .seq (List.toArray us) n) (hus : StrsAre us (sg.map fun c => S [c])) (dG : oG.data = .cell (some (.ref Sd)))
    (F : Fr s.heap L h (mp (lawFr d D k tz TX v1 (some (.ref Y)) none v4)))
    (N : News s.heap L h news) (hS : (Sd, oS) ∈ news) (hG : (L + 1 + 1, oG) ∈ news)
    (H : ∀ h' tk' t, Fr s.heap L h' (mp (lawFr d D k tz TX v1 (some (.ref Y)) (some (.int (fedN sg : Int) t)) v4)) → News s.heap L h' news → tk ≤ tk' →
      wpAny (model PR w) (A.deeper (lawEnv L)) (execs law12 (lawEnv L)) (LawPost s) (fun _ _ => False) { s with heap := h', toks := tk' }) :
    wpAny (model PR w) (A.deeper (lawEnv L)) (execs law11 (lawEnv L)) (LawPost s) (fun _ _ => False) { s with heap := h, toks := tk } := by
  have RR := R
  obtain ⟨X, ⟨p, loose, mg, mb, T⟩, hA, hu, hh⟩ := R
  revert H
  dsimp only [lawFr] at F
  rw [law11_c]
  dsimp only [hdS, law7, law8, law9, law10, law11, tlS, lawEnv, lawDef, bodyD, scopeD, PySem.Challenge.pw_rs0071_01, lastD]
  intro H
  refine cutS (fun s' => ∃ h' tk' t, s' = { s with heap := h', toks := tk' } ∧ Fr s.heap L h' (mp (lawFr d D k tz TX v1 (some (.ref Y)) (some (.int (fedN sg : Int) t)) v4)) ∧ News s.heap L h' news ∧ tk ≤ tk') ?_ (fun s' hs => by obtain ⟨h', tk', t, rfl, F₁, N₁, h1⟩ := hs; exact H h' tk' t F₁ N₁ h1)
  have hSl := isL_of hoS (N _ hS).1
  have hcell := (N _ hG).1
  try k_fold
  k_steps
  all_goals unfold Stop
  all_goals (rename Fr _ _ _ (mp (up _ _ _)) => F'); (rename News _ _ _ _ => N')
  · have e : fedN sg = 1 := if_pos ⟨any_T zero_S (by assumption), .inl (any_T bigA_S (by assumption))⟩
    exact CutP.mk ⟨_, _, _, rfl, by rw [e]; exact F', N', Nat.le_add_right tk 4⟩
  · have e : fedN sg = 1 := if_pos ⟨any_T zero_S (by assumption), .inr (any_T litA_S (by assumption))⟩
    exact CutP.mk ⟨_, _, _, rfl, by rw [e]; exact F', N', Nat.le_add_right tk 5⟩
  · have e : fedN sg = 0 := if_neg (fun q => q.2.elim (any_F bigA_S (by assumption)) (any_F litA_S (by assumption)))
    exact CutP.mk ⟨_, _, _, rfl, by rw [e]; exact F', N', Nat.le_add_right tk 5⟩
  · have e : fedN sg = 0 := if_neg (fun q => any_F zero_S (by assumption) q.1)
    exact CutP.mk ⟨_, _, _, rfl, by rw [e]; exact F', N', Nat.le_add_right tk 3⟩
end
end

/-! ## part LT12 -/
section
open PySem PySem.W PyProof.Rows PySem.Calls
noncomputable def whiteB (sg : List Nat) : Bool := decide (sg.getD (sg.length - 1) 0 = 32) || decide (sg.getD (sg.length - 1) 0 = 9)
noncomputable def dueI (k : Nat) (sg : List Nat) : List Int := dueX k sg.length (valD sg).length (whiteB sg) (fedN sg)
theorem valD_len {sg : List Nat} (h : Sg2 sg ∨ Sg3 sg) : (valD sg).length ≤ 2 := by
  rcases h with ⟨f, hf, rfl⟩ | ⟨f, x, hf, rfl, hx⟩
  · rw [valD2 hf]; exact Nat.le_succ _
  · by_cases hxf : x ∈ figs
    · by_cases hne : x = f
      · exfalso
        rcases hx with rfl | rfl | h | h
        · exact absurd hxf (by decide)
        · exact absurd hxf (by decide)
        · exact h.2 hne
        · exact absurd hxf (others_no x h).1
      · rw [valD3f hf hxf hne]; exact Nat.le_refl _
    · rw [valD3n hf hxf]; exact Nat.le_succ _
theorem spt_S : Str.ofString " 	" = S [32, 9] := by decide +kernel
theorem white_eq {sg : List Nat} (h : 2 ≤ sg.length) : (!List.isEmpty (Builtin.Str.occurrences (Str.ofString " 	") (List.getD (List.map (fun c => S [c]) sg) (Int.toNat (-1 + ((List.length (List.map (fun c => S [c]) sg) : Nat) : Int))) Str.empty) 0 (Str.length (Str.ofString " 	")) 1)) = whiteB sg := by
  have e : List.getD (List.map (fun c => S [c]) sg) (Int.toNat (-1 + ((List.length (List.map (fun c => S [c]) sg) : Nat) : Int))) Str.empty = S [sg.getD (sg.length - 1) 0] := by
    rw [List.length_map, show Int.toNat (-1 + ((sg.length : Nat) : Int)) = sg.length - 1 from by omega]
    rw [List.getD_eq_getElem?_getD, List.getElem?_map, List.getD_eq_getElem?_getD, List.getElem?_eq_getElem (show sg.length - 1 < sg.length by omega)]
    rfl
  rw [e, spt_S, S_in]
  unfold whiteB
  simp only [List.mem_cons, List.not_mem_nil, or_false, Bool.decide_or]
theorem fed_le (sg : List Nat) : fedN sg ≤ 1 := by unfold fedN; split <;> simp
theorem Ok.useT {w : World} {A : Around} {t : Sem Value} {P : Value → Shared → Prop} {s : Shared} {h₀ : Heap} {L : Addr} {m : Str → Option Value} {news : List (Addr × Obj)} {Q : Value → Shared → Prop} {E : Value → Shared → Prop}
    (C : Ok w A t P s) (F : Fr h₀ L s.heap m) (N : News h₀ L s.heap news)
    (h : ∀ v h' tk, s.toks ≤ tk → (∀ b o, s.heap.get? b = some o → h'.get? b = some o) → Fr h₀ L h' m → News h₀ L h' news → P v { s with heap := h', toks := tk } → Q v { s with heap := h', toks := tk }) :
    wpAny (model PR w) A t Q E s := by
  refine wpAny_mono (wpAny_toks C) (fun v s' hv => ?_) fun _ _ x => x.2.elim
  obtain ⟨ht, ⟨h', tk, rfl, k⟩, hP⟩ := hv
  exact h v h' tk ht k (Fr.kept F k) (News.kept N k) hP
theorem due_any {w : World} {A : Around} {s : Shared} {k : Nat} {sg : List Nat} {t u v z : Tok} (R : Rd 3 w A s.heap) (hk : (k = 6 ∧ Sg2 sg) ∨ (k = 4 ∧ Sg3 sg)) : Ok w A (call (.ref 124) [.int (k : Int) t, .int (sg.length : Int) u, .int ((valD sg).length : Int) v, .bool (whiteB sg), .int (fedN sg : Int) z]) (fun v s' => ∃ D vs, v = .ref D ∧ s.heap.get? D = none ∧ s'.heap.IsList D (List.toArray vs) ∧ IntsAre vs (dueI k sg)) s := by
  have hs23 : sg.length ≤ 3 := by rcases hk with ⟨_, f, _, rfl⟩ | ⟨_, f, x, _, rfl, _⟩ <;> simp
  have hvl := valD_len (hk.elim (fun h => .inl h.2) (fun h => .inr h.2))
  have hk6 : k = 6 ∨ k = 4 := hk.elim (fun h => .inl h.1) (fun h => .inr h.1)
  exact c_due R hs23 hvl (fed_le sg) (by omega) (by omega)
section
variable {w : World} {A : Around} {s : Shared}
set_option maxRecDepth 100000
set_option maxHeartbeats 8000000

theorem tail12 {d D TX Y Sd V L : Addr} {h : Heap} {tk k : Nat} {tz tf : Tok} {v1 : Option Value} {sg : List Nat} {us : List Value} {oS oG oC oV : Obj} {news : List (Addr × Obj)} (R : Rd 4 w A s.heap)
    (hk : (k = 6 ∧ Sg2 sg) ∨ (k = 4 ∧ Sg3 sg))
    (hoS : oS.cls = .type "list" ∧ ∃ n, oS.data = .seq (List.toArray us) n) (hus : StrsAre us (sg.map fun c => S [c])) (dG : oG.data = .cell (some (.ref Sd))) (dC : oC.data = .cell (some (.ref V))) (hT : StrTab PR w h V (valD sg))
    (F : Fr s.heap L h (mp (lawFr d D k tz TX v1 (some (.ref Y)) (some (.int (fedN sg : Int) tf)) none)))
    (N : News s.heap L h news) (hS : (Sd, oS) ∈ news) (hG : (L + 1 + 1, oG) ∈ news) (hV : (V, oV) ∈ news) (hC : (L + 1 + 1 + 1, oC) ∈ news)
    (H : ∀ h' tk' U oU vs, Fr s.heap L h' (mp (lawFr d D k tz TX v1 (some (.ref Y)) (some (.int (fedN sg : Int) tf)) (some (.ref U)))) → News s.heap L h' ((U, oU) :: news) → (oU.cls = .type "list" ∧ ∃ n, oU.data = .seq (List.toArray vs) n) → IntsAre vs (dueI k sg) → tk ≤ tk' →
      wpAny (model PR w) (A.deeper (lawEnv L)) (execs law13 (lawEnv L)) (LawPost s) (fun _ _ => False) { s with heap := h', toks := tk' }) :
    wpAny (model PR w) (A.deeper (lawEnv L)) (execs law12 (lawEnv L)) (LawPost s) (fun _ _ => False) { s with heap := h, toks := tk } := by
  have RR := R
  obtain ⟨X, ⟨p, loose, mg, mb, T⟩, hA, hu, hh⟩ := R
  revert H
  dsimp only [lawFr] at F
  rw [law12_c]
  dsimp only [hdS, law7, law8, law9, law10, law11, law12, tlS, lawEnv, lawDef, bodyD, scopeD, PySem.Challenge.pw_rs0071_01, lastD]
  intro H
  refine cutS (fun s' => ∃ h' tk' U oU vs, s' = { s with heap := h', toks := tk' } ∧ Fr s.heap L h' (mp (lawFr d D k tz TX v1 (some (.ref Y)) (some (.int (fedN sg : Int) tf)) (some (.ref U)))) ∧ News s.heap L h' ((U, oU) :: news) ∧ (oU.cls = .type "list" ∧ ∃ n, oU.data = .seq (List.toArray vs) n) ∧ IntsAre vs (dueI k sg) ∧ tk ≤ tk') ?_
    (fun s' hs => by obtain ⟨h', tk', U, oU, vs, rfl, F₁, N₁, h1, h2, h3⟩ := hs; exact H h' tk' U oU vs F₁ N₁ h1 h2 h3)
  have hSl := isL_of hoS (N _ hS).1
  have hcell := (N _ hG).1
  have hcell2 := (N _ hC).1
  have hul := hus.len_eq
  rw [List.length_map] at hul
  have hs23 : sg.length ≤ 3 := by rcases hk with ⟨_, f, _, rfl⟩ | ⟨_, f, x, _, rfl, _⟩ <;> simp
  have hs2 : 2 ≤ sg.length := by rcases hk with ⟨_, f, _, rfl⟩ | ⟨_, f, x, _, rfl, _⟩ <;> simp
  have hvl := valD_len (hk.elim (fun h => .inl h.2) (fun h => .inr h.2))
  try k_fold
  k_steps
  unfold Stop
  (rename Fr _ _ _ _ => F'); (rename News _ _ _ _ => N')
  rw [white_eq hs2]
  refine Ok.useT (due_any (rdX RR F') hk) F' N' ?_
  rintro _ h' tk' ht' hk' F₂ N₂ ⟨U, vs, rfl, hU, hUl, hi⟩
  obtain ⟨oU, hoU, N₃⟩ := news_call F' N₂ hU hUl
  clear F' N' N₂ hSl hcell hcell2
  k_steps
  unfold Stop
  (rename Fr _ _ _ _ => F'); (rename News _ _ _ _ => N')
  exact CutP.mk ⟨_, _, U, oU, vs, rfl, F', N', hoU, hi, Nat.le_trans (Nat.le_add_right tk 7) (Nat.le_trans ht' (Nat.le_succ _))⟩
end
end

/-! ## part LT13 -/
section
open PySem PySem.W PyProof.Rows PySem.Calls
theorem ints_by {f : Nat → Int} : ∀ {vs : List Value} {n : Nat}, vs.length = n → (∀ (i : Nat) y, vs[i]? = some y → ∃ k, y = Value.int (f i) k) → IntsAre vs ((List.range n).map f) := by
  intro vs
  induction vs generalizing f with
  | nil => intro n h _; subst h; exact .nil
  | cons v vs ih =>
    intro n h hy
    subst h
    rw [List.length_cons, List.range_succ_eq_map, List.map_cons, List.map_map]
    obtain ⟨k, rfl⟩ := hy 0 v rfl
    exact .cons _ _ (ih (f := f ∘ Nat.succ) rfl fun i y h => hy (i + 1) y (by simpa using h))
theorem range_small {k : Nat} (h : k = 6 ∨ k = 4) : Builtin.Range.small 0 ((k : Int) + 1) 1 = true := by
  rcases h with rfl | rfl <;> decide +kernel
theorem range_size {k : Nat} (h : k = 6 ∨ k = 4) : Builtin.Range.rangeSize 0 ((k : Int) + 1) 1 = k + 1 := by
  rcases h with rfl | rfl <;> decide +kernel
theorem range_T {prog : Program} {w : World} {A : Around} {E : Value → Shared → Prop} {s : Shared} {h₀ : Heap} {L : Addr} {m : Str → Option Value} {Q : Value → Shared → Prop} {n : Int} {t : Tok} {news : List (Addr × Obj)} (F : Fr h₀ L s.heap m) (N : News h₀ L s.heap news)
    (h : ∀ a h' tk t u v, s.toks ≤ tk → Fr h₀ L h' m → News h₀ L h' news → IsRange h' a 0 n 1 t u v → Q (.ref a) { s with heap := h', toks := tk }) :
    wpAny (model prog w) A (call (.type "range") [.int n t]) Q E s := by
  refine wpAny_mono (wpAny_toks (Q := fun v s' => ∃ a h' tk t u v', v = .ref a ∧ s' = { s with heap := h', toks := tk } ∧ Fr h₀ L h' m ∧ News h₀ L h' news ∧ IsRange h' a 0 n 1 t u v') (E := fun _ _ => False) (range1_rows F N ?_)) (fun v s' hv => ?_) fun _ _ e => e.2.elim
  · intros
    exact ⟨_, _, _, _, _, _, rfl, rfl, by assumption, by assumption, by assumption⟩
  · obtain ⟨ht, a, h', tk, t, u, v', rfl, rfl, F', N', hR⟩ := hv
    exact h a h' tk t u v' ht F' N' hR
local macro_rules | `(tactic| walk_at "call type:range") => `(tactic| (refine stop_ ?_))
local macro_rules | `(tactic| walk_at "eval ListComp") => `(tactic| (refine stop_ ?_))
section
variable {w : World} {A : Around} {s : Shared}
set_option maxRecDepth 100000
set_option maxHeartbeats 8000000

theorem tail13 {d D TX Y U Z L : Addr} {h : Heap} {tk k : Nat} {tz tf : Tok} {v1 : Option Value} {f : Int} {ls : List Int} {vs : List Value} {ns : List (Int × Tok)} {oU oS oZ : Obj} {news : List (Addr × Obj)} (R : Rd 4 w A s.heap)
    (hk : k = 6 ∨ k = 4) (hcnt : (List.range (k + 1)).map (fun i => (cntI ((i : Nat) : Int) ns : Int)) = ls) (hnl : ns.length ≤ 1000) (hns : ∀ p ∈ ns, 0 ≤ p.1 ∧ p.1 ≤ 100 ∧ 0 < p.2 ∧ p.2 < tk)
    (hoS : oS.cls = .type "list" ∧ ∃ n, oS.data = .seq (List.toArray (ns.map fun p : Int × Tok => Value.int p.1 p.2)) n) (dZ : oZ.data = .cell (some (.ref Z)))
    (hoU : oU.cls = .type "list" ∧ ∃ n, oU.data = .seq (List.toArray vs) n) (hvs : IntsAre vs ls)
    (F : Fr s.heap L h (mp (lawFr d D k tz TX v1 (some (.ref Y)) (some (.int f tf)) (some (.ref U)))))
    (N : News s.heap L h news) (hS : (Z, oS) ∈ news) (hZ : (L + 1 + 1 + 1 + 1, oZ) ∈ news) (hU : (U, oU) ∈ news) :
    wpAny (model PR w) (A.deeper (lawEnv L)) (execs law13 (lawEnv L)) (LawPost s) (fun _ _ => False) { s with heap := h, toks := tk } := by
  have RR := R
  obtain ⟨X, ⟨p, loose, mg, mb, T⟩, hA, hu, hh⟩ := R
  dsimp only [lawFr] at F
  dsimp only [hdS, law7, law8, law9, law10, law11, law12, law13, tlS, lawEnv, lawDef, bodyD, scopeD, PySem.Challenge.pw_rs0071_01, lastD]
  have hk6 : k ≤ 6 := by omega
  try k_fold
  k_steps
  unfold Stop
  refine comp_eval (fun i y _ => ∃ z, y = .int (cntI ((i : Nat) : Int) ns : Int) z) (fun _ _ _ _ h _ => h) rfl (by decide) rfl (by decide) rfl ?_
  k_steps
  unfold Stop
  refine range_T (by assumption) (by assumption) ?_
  intro r h₁ tk₁ t₁ u₁ v₁ ht₁ F₁ N₁ hR
  clear F N
  k_steps
  unfold Stop
  (rename Fr _ _ _ _ => F'); (rename News _ _ _ _ => N')
  refine wpAny_pyIter_range hR (range_small hk) ?_
  rw [range_size hk]
  have hRd := AllRd.of RR F'
  have hcell := (N' _ hZ).1
  have hSl := isL_of hoS (N' _ hS).1
  refine ⟨_, _, _, _, _, rfl, Itr.range (A := A.deeper _) hh _ 0 (k + 1), by omega, ?_, ?_, ?_, ?_⟩
  · have e1 : (0 : Int) + ((0 : Nat) : Int) = 0 := rfl
    have e2 : ((k + 1 : Nat) : Int) - ((0 : Nat) : Int) = (k : Int) + 1 := by omega
    rw [e1, e2]
    exact Heap.get?_push_size _ rfl
  · intro b hb; rw [List.mem_singleton.mp hb, Heap.size_push]; exact Nat.lt_succ_self _
  · rintro C i v s₃ m₃ t hC hi rfl ht ht' hn hm hk'
    have kk := kept_push' hk'
    have hRd3 := hRd.keeps kk
    obtain ⟨X3, ⟨p3, loose3, mg3, mb3, T3⟩, _, _, _⟩ := hRd3 default
    have hcell3 := kk _ _ hcell
    have hSl3 := hSl.at fun o e => kk _ _ e
    rw [Int.zero_add] at hm
    have ht2 : tk ≤ t := Nat.le_trans (Nat.le_trans (Nat.le_add_right tk 2) ht₁) ht
    have hns' : ∀ p ∈ ns, 0 ≤ p.1 ∧ p.1 ≤ 100 ∧ 0 < p.2 ∧ p.2 ≠ t := fun p hp => by
      obtain ⟨h1, h2, h3, h4⟩ := hns p hp
      exact ⟨h1, h2, h3, Nat.ne_of_lt (Nat.lt_of_lt_of_le h4 ht2)⟩
    clear hk'
    k_steps
    unfold Stop
    refine Ok.useK (c_count (Rd.less (hRd3 _) (by decide)) hSl3 hnl (Nat.lt_of_lt_of_le (Nat.succ_pos _) (Nat.le_trans ht₁ ht)) hns') ?_
    rintro _ h₅ tk₅ hk₅ ⟨kz, rfl⟩
    k_steps
    · exact ⟨_, _, rfl, hk₅⟩
  · intro W h₅ tk₅ zs hW hl5 hsz hRR htk hk'
    rw [show zs = zs.toList.toArray from by simp] at hl5
    have kk := kept_push' hk'
    have F₅ := F'.keeps kk
    have N₅ := News.kept N' kk
    have hzs : IntsAre zs.toList ls := by
      rw [← hcnt]
      exact ints_by (f := fun i => (cntI ((i : Nat) : Int) ns : Int)) (by simpa using hsz) fun i y hy => hRR i y (by simpa using hy)
    have hUl := isL_of hoU (N₅ _ hU).1
    clear F' N'
    k_steps
    exact Post.mk F₅ rfl
end
end

/-! ## part PC2 -/
section
open PySem PySem.W PyProof.Rows PySem.Calls
theorem prod_map (φ : Nat → Nat) (sg : List Nat) : ∀ n, prod (sg.map φ) n = (prod sg n).map (List.map φ)
  | 0 => rfl
  | n + 1 => by
    rw [prod, prod, prod_map φ sg n, List.flatMap_map, List.map_flatMap]
    congr 1
    funext t
    rw [List.map_map, List.map_map]
    congr 1
    funext c
    simp
/-- the sizes of what decode leaves of all texts -/
noncomputable def szs (sg : List Nat) (k : Nat) : List Nat := ([] :: prod sg k).map fun t => (dec t).length
theorem szs_cls {φ : Nat → Nat} {sg : List Nat} (C : Cls φ sg) (k : Nat) : szs (sg.map φ) k = szs sg k := by
  unfold szs
  rw [prod_map, List.map_cons, List.map_cons, List.map_map]
  congr 1
  refine List.map_congr_left fun t ht => ?_
  exact dec_cls C (prod_mem sg k t ht).2
theorem szs_F {sg : List Nat} {k : Nat} (hk : k ≤ 6) : szs sg k = ([] :: prod sg k).map decF := by
  unfold szs
  refine List.map_congr_left fun t ht => ?_
  refine dec_F ?_
  rcases List.mem_cons.mp ht with rfl | ht
  · exact Nat.zero_le _
  · rw [(prod_mem sg k t ht).1]; exact hk
noncomputable def phi (f f' x x' c : Nat) : Nat := if c = f then f' else if c = x then x' else c
theorem fig_fact : ∀ f ∈ figs, f ≠ 61 ∧ f ∈ hexL ∧ Unicode.isSpace f = false ∧ f ≠ 10 ∧ 16 * hexV f + hexV f ≠ 10 := by decide +kernel
theorem oth_fact : ∀ x ∈ others, x ≠ 61 ∧ x ∉ hexL ∧ Unicode.isSpace x = false ∧ x ≠ 10 := by decide +kernel
theorem cls2 {f : Nat} (hf : f ∈ figs) : Cls (phi f 49 f 49) [61, f] := by
  obtain ⟨h1, h2, h3, h4, h5⟩ := fig_fact f hf
  have p61 : phi f 49 f 49 61 = 61 := by unfold phi; rw [if_neg (Ne.symm h1), if_neg (Ne.symm h1)]
  have pf : phi f 49 f 49 f = 49 := by unfold phi; rw [if_pos rfl]
  have two : ∀ {P : Nat → Prop}, P 61 → P f → ∀ c ∈ [61, f], P c := fun a b c hc => by
    simp only [List.mem_cons, List.not_mem_nil, or_false] at hc
    rcases hc with rfl | rfl
    · exact a
    · exact b
  have n61 : (61 : Nat) ∉ hexL := by decide
  refine ⟨two ?_ ?_, two ?_ ?_, two ?_ ?_, two ?_ ?_, two (two ?_ ?_) (two ?_ ?_)⟩
  · rw [p61]
  · rw [pf]; exact ⟨fun e => absurd e (by decide), fun e => absurd e h1⟩
  · rw [p61]
  · rw [pf]; exact ⟨fun _ => h2, fun _ => by decide⟩
  · rw [p61]
  · rw [pf, h3]; decide +kernel
  · rw [p61]
  · rw [pf]; exact ⟨fun e => absurd e (by decide), fun e => absurd e h4⟩
  · exact fun a => absurd a n61
  · exact fun a => absurd a n61
  · exact fun _ a => absurd a n61
  · intro _ _; rw [pf]; exact ⟨fun e => absurd e (by decide), fun e => absurd e h5⟩
theorem cls3 {f x f' x' : Nat} (hf : f ∈ figs) (hf' : f' ∈ figs) (hx : x ≠ 61) (hx' : x' ≠ 61) (hxf : x ≠ f) (h3 : x' ∈ hexL ↔ x ∈ hexL) (s2 : Unicode.isSpace x' = Unicode.isSpace x) (n2 : x ≠ 10) (n2' : x' ≠ 10)
    (l2 : x ∈ hexL → (16 * hexV f' + hexV x' = 10 ↔ 16 * hexV f + hexV x = 10) ∧ (16 * hexV x' + hexV f' = 10 ↔ 16 * hexV x + hexV f = 10) ∧ (16 * hexV x' + hexV x' = 10 ↔ 16 * hexV x + hexV x = 10)) : Cls (phi f f' x x') [61, f, x] := by
  obtain ⟨h1, h2, hs, h4, h5⟩ := fig_fact f hf
  obtain ⟨g1, g2, gs, g4, g5⟩ := fig_fact f' hf'
  have p61 : phi f f' x x' 61 = 61 := by unfold phi; rw [if_neg (Ne.symm h1), if_neg (Ne.symm hx)]
  have pf : phi f f' x x' f = f' := by unfold phi; rw [if_pos rfl]
  have px : phi f f' x x' x = x' := by unfold phi; rw [if_neg hxf, if_pos rfl]
  have thr : ∀ {P : Nat → Prop}, P 61 → P f → P x → ∀ c ∈ [61, f, x], P c := fun a b d c hc => by
    simp only [List.mem_cons, List.not_mem_nil, or_false] at hc
    rcases hc with rfl | rfl | rfl
    · exact a
    · exact b
    · exact d
  have n61 : (61 : Nat) ∉ hexL := by decide
  refine ⟨thr ?_ ?_ ?_, thr ?_ ?_ ?_, thr ?_ ?_ ?_, thr ?_ ?_ ?_, thr (thr ?_ ?_ ?_) (thr ?_ ?_ ?_) (thr ?_ ?_ ?_)⟩
  · rw [p61]
  · rw [pf]; exact ⟨fun e => absurd e g1, fun e => absurd e h1⟩
  · rw [px]; exact ⟨fun e => absurd e hx', fun e => absurd e hx⟩
  · rw [p61]
  · rw [pf]; exact ⟨fun _ => h2, fun _ => g2⟩
  · rw [px]; exact h3
  · rw [p61]
  · rw [pf, hs, gs]
  · rw [px]; exact s2
  · rw [p61]
  · rw [pf]; exact ⟨fun e => absurd e g4, fun e => absurd e h4⟩
  · rw [px]; exact ⟨fun e => absurd e n2', fun e => absurd e n2⟩
  · exact fun a => absurd a n61
  · exact fun a => absurd a n61
  · exact fun a => absurd a n61
  · exact fun _ a => absurd a n61
  · intro _ _; rw [pf]; exact ⟨fun e => absurd e g5, fun e => absurd e h5⟩
  · intro _ a; rw [pf, px]; exact (l2 a).1
  · exact fun _ a => absurd a n61
  · intro a _; rw [pf, px]; exact (l2 a).2.1
  · intro a _; rw [px]; exact (l2 a).2.2
/-- how many of each size -/
noncomputable def cntP (k : Nat) (l : List Nat) : List Int := (List.range (k + 1)).map fun i => ((l.filter fun m => decide (m = i)).length : Int)
theorem dueI_P (k : Nat) (sg : List Nat) : dueI k sg = dueX k sg.length (valD sg).length (whiteB sg) (fedN sg) := rfl
theorem rep2 : cntP 6 (([] :: prod [61, 49] 6).map decF) = dueX 6 2 1 false 0 := by decide +kernel
theorem rep3w : cntP 4 (([] :: prod [61, 49, 32] 4).map decF) = dueX 4 3 1 true 0 := by decide +kernel
theorem rep3o : cntP 4 (([] :: prod [61, 49, 33] 4).map decF) = dueX 4 3 1 false 0 := by decide +kernel
theorem rep3f : cntP 4 (([] :: prod [61, 49, 50] 4).map decF) = dueX 4 3 2 false 0 := by decide +kernel
theorem rep3a : cntP 4 (([] :: prod [61, 48, 65] 4).map decF) = dueX 4 3 2 false 1 := by decide +kernel
theorem rep3b : cntP 4 (([] :: prod [61, 65, 48] 4).map decF) = dueX 4 3 2 false 1 := by decide +kernel
end

/-! ## part PC3 -/
section
open PySem PySem.W PyProof.Rows PySem.Calls
theorem fedN_of (sg : List Nat) (h : ¬ (48 ∈ sg ∧ (65 ∈ sg ∨ 97 ∈ sg))) : fedN sg = 0 := if_neg h
theorem fed_no : ∀ f ∈ figs, ∀ x ∈ figs, ¬ (48 ∈ [61, f, x] ∧ (65 ∈ [61, f, x] ∨ 97 ∈ [61, f, x])) → 16 * hexV f + hexV x ≠ 10 ∧ 16 * hexV x + hexV f ≠ 10 ∧ 16 * hexV x + hexV x ≠ 10 := by decide +kernel
theorem fed_yes : ∀ f ∈ figs, ∀ x ∈ figs, (48 ∈ [61, f, x] ∧ (65 ∈ [61, f, x] ∨ 97 ∈ [61, f, x])) → f = 48 ∧ (x = 65 ∨ x = 97) ∨ x = 48 ∧ (f = 65 ∨ f = 97) := by decide +kernel
theorem rep_of {k : Nat} {sg rep : List Nat} {φ : Nat → Nat} (hk : k ≤ 6) (C : Cls φ sg) (e : sg.map φ = rep) : szs sg k = ([] :: prod rep k).map decF := by
  rw [← szs_cls C k, e, szs_F hk]
theorem map3 {f x f' x' : Nat} (hf : f ≠ 61) (hx : x ≠ 61) (hxf : x ≠ f) : [61, f, x].map (phi f f' x x') = [61, f', x'] := by
  simp [phi, Ne.symm hf, Ne.symm hx, hxf]
theorem cnt_sg {k : Nat} {sg : List Nat} (hk : (k = 6 ∧ Sg2 sg) ∨ (k = 4 ∧ Sg3 sg)) : cntP k (szs sg k) = dueI k sg := by
  rw [dueI_P]
  rcases hk with ⟨rfl, f, hf, rfl⟩ | ⟨rfl, f, x, hf, rfl, hx⟩
  · obtain ⟨h1, h2, h3, h4, h5⟩ := fig_fact f hf
    rw [rep_of (by decide) (cls2 hf) (rep := [61, 49]) (by simp [phi, Ne.symm h1]), rep2, valD2 hf]
    have hw : ∀ f ∈ figs, whiteB [61, f] = false := by decide
    have hn : ∀ f ∈ figs, ¬ (48 ∈ [61, f] ∧ (65 ∈ [61, f] ∨ 97 ∈ [61, f])) := by decide
    rw [hw f hf, fedN_of _ (hn f hf)]
    rfl
  · obtain ⟨h1, h2, h3, h4, h5⟩ := fig_fact f hf
    have f49 : (49 : Nat) ∈ figs := by decide
    have hns : ∀ x, x ∉ figs → ¬ (48 ∈ [61, f, x] ∧ (65 ∈ [61, f, x] ∨ 97 ∈ [61, f, x])) := by
      rintro x hxn ⟨q1, q2⟩
      have z0 : (48 : Nat) ∈ figs := by decide
      have z1 : (65 : Nat) ∈ figs := by decide
      have z2 : (97 : Nat) ∈ figs := by decide
      simp only [List.mem_cons, List.not_mem_nil, or_false] at q1 q2
      have : f = 48 := by
        rcases q1 with q | q | q
        · exact absurd q (by decide)
        · exact q.symm
        · exact absurd (q ▸ z0) hxn
      subst this
      rcases q2 with (q | q | q) | (q | q | q)
      · exact absurd q (by decide)
      · exact absurd q (by decide)
      · exact hxn (q ▸ z1)
      · exact absurd q (by decide)
      · exact absurd q (by decide)
      · exact hxn (q ▸ z2)
    have white : ∀ x, (x = 32 ∨ x = 9) → cntP 4 (szs [61, f, x] 4) = dueX 4 [61, f, x].length (valD [61, f, x]).length (whiteB [61, f, x]) (fedN [61, f, x]) := by
      intro x hx
      have hxn : x ∉ figs := by rcases hx with rfl | rfl <;> decide
      have hxe : x ≠ 61 := by rcases hx with rfl | rfl <;> decide
      have hxf : x ≠ f := fun e => hxn (e ▸ hf)
      rw [rep_of (by decide) (cls3 (f' := 49) (x' := 32) hf f49 hxe (by decide) hxf (by rcases hx with rfl | rfl <;> decide) (by rcases hx with rfl | rfl <;> decide +kernel) (by rcases hx with rfl | rfl <;> decide) (by decide) (fun a => absurd ((figs_hex x).mpr a) hxn)) (map3 h1 hxe hxf),
        rep3w, valD3n hf hxn, fedN_of _ (hns x hxn)]
      rcases hx with rfl | rfl <;> rfl
    rcases hx with hx | hx | ⟨hx, hxf⟩ | hx
    · exact white x (.inl hx)
    · exact white x (.inr hx)
    · obtain ⟨x1, x2, x3, x4, x5⟩ := fig_fact x hx
      have hwf : whiteB [61, f, x] = false := by
        have : ∀ x ∈ figs, (decide (x = 32) || decide (x = 9)) = false := by decide
        exact this x hx
      rw [valD3f hf hx hxf, hwf]
      by_cases hfd : 48 ∈ [61, f, x] ∧ (65 ∈ [61, f, x] ∨ 97 ∈ [61, f, x])
      · have e1 : fedN [61, f, x] = 1 := if_pos hfd
        rw [e1]
        rcases fed_yes f hf x hx hfd with ⟨rfl, hh⟩ | ⟨rfl, hh⟩
        · rw [rep_of (by decide) (cls3 (f' := 48) (x' := 65) hf hf x1 (by decide) hxf ⟨fun _ => x2, fun _ => by decide⟩ (Eq.trans (by decide +kernel) x3.symm) x4 (by decide) (fun _ => by rcases hh with rfl | rfl <;> decide)) (map3 h1 x1 hxf), rep3a]
          rfl
        · rw [rep_of (by decide) (cls3 (f' := 65) (x' := 48) hf (by decide) x1 (by decide) hxf ⟨fun _ => x2, fun _ => by decide⟩ (Eq.trans (by decide +kernel) x3.symm) x4 (by decide) (fun _ => by rcases hh with rfl | rfl <;> decide)) (map3 h1 x1 hxf), rep3b]
          rfl
      · obtain ⟨g1, g2, g3⟩ := fed_no f hf x hx hfd
        rw [fedN_of _ hfd, rep_of (by decide) (cls3 (f' := 49) (x' := 50) hf f49 x1 (by decide) hxf ⟨fun _ => x2, fun _ => by decide⟩ (Eq.trans (by decide +kernel) x3.symm) x4 (by decide)
          (fun _ => ⟨⟨fun e => absurd e (by decide), fun e => absurd e g1⟩, ⟨fun e => absurd e (by decide), fun e => absurd e g2⟩, ⟨fun e => absurd e (by decide), fun e => absurd e g3⟩⟩)) (map3 h1 x1 hxf), rep3f]
        rfl
    · obtain ⟨x1, x2, x3, x4⟩ := oth_fact x hx
      have hxn : x ∉ figs := fun e => x2 ((figs_hex x).mp e)
      have hxf : x ≠ f := fun e => hxn (e ▸ hf)
      have hwf : whiteB [61, f, x] = false := by
        have := (others_no x hx).2.2.1
        show (decide (x = 32) || decide (x = 9)) = false
        simp; omega
      rw [rep_of (by decide) (cls3 (f' := 49) (x' := 33) hf f49 x1 (by decide) hxf ⟨fun e => absurd e (by decide), fun e => absurd e x2⟩ (Eq.trans (by decide +kernel) x3.symm) x4 (by decide) (fun a => absurd a x2)) (map3 h1 x1 hxf),
        rep3o, valD3n hf hxn, fedN_of _ (hns x hxn), hwf]
      rfl
theorem cntI_map (i : Nat) {ns : List (Int × Tok)} {l : List Nat} (h : ns.map Prod.fst = l.map fun m => ((m : Nat) : Int)) : cntI (i : Int) ns = (l.filter fun m => decide (m = i)).length := by
  unfold cntI
  induction ns generalizing l with
  | nil => cases l with | nil => rfl | cons a l => cases h
  | cons p ns ih =>
    cases l with
    | nil => cases h
    | cons a l =>
      rw [List.map_cons, List.map_cons] at h
      injection h with h1 h2
      have := ih h2
      rw [List.filter_cons, List.filter_cons, h1]
      by_cases e : a = i
      · subst e; simp [this]
      · have e' : ¬ ((a : Int) = (i : Int)) := fun q => e (by omega)
        simp [e, e', this]
theorem counts_ok {k : Nat} {sg : List Nat} {ns : List (Int × Tok)} (hk : (k = 6 ∧ Sg2 sg) ∨ (k = 4 ∧ Sg3 sg)) (hns : ns.map Prod.fst = ([] :: prod sg k).map (fun t => ((dec t).length : Int))) :
    (List.range (k + 1)).map (fun i => (cntI ((i : Nat) : Int) ns : Int)) = dueI k sg := by
  rw [← cnt_sg hk]
  unfold cntP
  refine List.map_congr_left fun i _ => ?_
  rw [cntI_map i (l := szs sg k) (by rw [hns]; unfold szs; rw [List.map_map]; rfl)]
end

/-! ## part LTA -/
section
open PySem PySem.W PyProof.Rows PySem.Calls
theorem strTab_news {w : World} {h₀ h h' : Heap} {L V : Addr} {o : Obj} {D : List (PyData × PyData)} {n n' : List (Addr × Obj)} (T : StrTab PR w h V D) (N : News h₀ L h n) (N' : News h₀ L h' n') (hm : (V, o) ∈ n) (hm' : (V, o) ∈ n') : StrTab PR w h' V D :=
  strTab_at T fun o' e => by
    have h1 := (N _ hm).1
    rw [h1] at e
    injection e with e
    subst e
    exact (N' _ hm').1
theorem apart_dc {w : World} {h₀ h : Heap} {L V c : Addr} {oc : Obj} {D : List (PyData × PyData)} {v : Option Value} {n : List (Addr × Obj)} (T : StrTab PR w h V D) (N : News h₀ L h n) (hc : (c, oc) ∈ n) (h2 : oc.data = .cell v) : V ≠ c := by
  rintro rfl
  obtain ⟨_, kvs, ⟨o, es, ep, ho, _, hd, _⟩, _⟩ := T
  have e : some o = some oc := ho.symm.trans (N _ hc).1
  injection e with e
  subst e
  rw [h2] at hd; cases hd
section
variable {w : World} {A : Around} {s : Shared}
theorem tailAll {d D TX Sd L : Addr} {h : Heap} {tk k : Nat} {tz : Tok} {v1 : Option Value} {sg : List Nat} {xs us : List Value} {oX oS oG o1 o2 : Obj} (R : Rd 4 w A s.heap) (hk : (k = 6 ∧ Sg2 sg) ∨ (k = 4 ∧ Sg3 sg))
    (hus : StrsAre us (sg.map fun c => S [c])) (hoS : oS.cls = .type "list" ∧ ∃ n, oS.data = .seq (List.toArray us) n) (hoX : oX.cls = .type "list" ∧ ∃ n, oX.data = .seq (List.toArray xs) n) (hxs : StrsAre xs (([] :: prod sg k).map S))
    (dG : oG.data = .cell (some (.ref Sd))) (d2 : o2.data = .cell none) (d1 : o1.data = .cell none)
    (F : Fr s.heap L h (mp (lawFr d D k tz TX v1 none none none)))
    (N : News s.heap L h [(TX, oX), (L + 1 + 1, oG), (Sd, oS), (L + 1 + 1 + 1, o2), (L + 1 + 1 + 1 + 1, o1)]) :
    wpAny (model PR w) (A.deeper (lawEnv L)) (execs law7 (lawEnv L)) (LawPost s) (fun _ _ => False) { s with heap := h, toks := tk } := by
  have hsg : Sg2 sg ∨ Sg3 sg := hk.elim (fun h => .inl h.2) (fun h => .inr h.2)
  have hk6 : k = 6 ∨ k = 4 := hk.elim (fun h => .inl h.1) (fun h => .inr h.1)
  have hs3 : sg.length ≤ 3 := by rcases hsg with ⟨f, _, rfl⟩ | ⟨f, x, _, rfl, _⟩ <;> simp
  have hmem : ∀ t ∈ [] :: prod sg k, t.length ≤ 6 ∧ ∀ c ∈ t, c ∈ sg := by
    intro t ht
    rcases List.mem_cons.mp ht with rfl | ht
    · exact ⟨Nat.zero_le _, by simp⟩
    · have := prod_mem sg k t ht
      exact ⟨by rw [this.1]; omega, this.2⟩
  have htt : ∀ t ∈ [] :: prod sg k, t.length ≤ 10 ∧ ∀ c ∈ t, okC c := fun t ht => ⟨by have := (hmem t ht).1; omega, fun c hc => sg_ok hsg c ((hmem t ht).2 c hc)⟩
  have hDD : ∀ t ∈ [] :: prod sg k, ∀ c ∈ t, PySem.Spec.lookup (.str (S [c])) (valD sg) = if c ∈ hexL then some (.int (hexV c)) else none := fun t ht c hc => valD_look hsg c ((hmem t ht).2 c hc)
  have htl : ([] :: prod sg k).length ≤ 1000 := by
    rw [List.length_cons, prod_len]
    rcases hk with ⟨rfl, f, _, rfl⟩ | ⟨rfl, f, x, _, rfl, _⟩ <;> simp
  refine tail7 R hsg hus hoS hoX dG d2 F N ?_
  intro h₃ tk₃ V oV oC F₃ N₃ dC hT₃
  refine tail8 R htt htl hoX hxs F₃ N₃ (by repeat (first | exact List.Mem.head _ | apply List.Mem.tail)) ?_
  intro h₄ tk₄ Y oY ys F₄ N₄ hoY hys
  have hT₄ := strTab_news hT₃ N₃ N₄ (o := oV) (by repeat (first | exact List.Mem.head _ | apply List.Mem.tail)) (by repeat (first | exact List.Mem.head _ | apply List.Mem.tail))
  refine tail9 R htt hDD htl hoX hxs hoY hys dC hT₄ F₄ N₄ (by repeat (first | exact List.Mem.head _ | apply List.Mem.tail)) (by repeat (first | exact List.Mem.head _ | apply List.Mem.tail)) (oV := oV) (by repeat (first | exact List.Mem.head _ | apply List.Mem.tail)) (by repeat (first | exact List.Mem.head _ | apply List.Mem.tail)) ?_
  intro h₅ tk₅ F₅ N₅ hT₅
  have m1 : (L + 1 + 1 + 1 + 1, o1) ∈ [(Y, oY), (V, oV), (L + 1 + 1 + 1, oC), (TX, oX), (L + 1 + 1, oG), (Sd, oS), (L + 1 + 1 + 1 + 1, o1)] := (by repeat (first | exact List.Mem.head _ | apply List.Mem.tail))
  have a1 := apart_lc N₅ (a := Y) (oa := oY) (by repeat (first | exact List.Mem.head _ | apply List.Mem.tail)) m1 hoY d1
  have a2 := apart_dc hT₅ N₅ m1 d1
  have a3 := apart_lc N₅ (a := TX) (oa := oX) (by repeat (first | exact List.Mem.head _ | apply List.Mem.tail)) m1 hoX d1
  have a4 := apart_lc N₅ (a := Sd) (oa := oS) (by repeat (first | exact List.Mem.head _ | apply List.Mem.tail)) m1 hoS d1
  refine tail10 (news := [(Y, oY), (V, oV), (L + 1 + 1 + 1, oC), (TX, oX), (L + 1 + 1, oG), (Sd, oS)]) R (fun t ht => (htt t ht).1) htl hoY hys d1 F₅ (News.pick N₅ (by repeat (first | exact List.Mem.head _ | apply List.Mem.tail)) (News.pick N₅ (by repeat (first | exact List.Mem.head _ | apply List.Mem.tail)) (News.pick N₅ (by repeat (first | exact List.Mem.head _ | apply List.Mem.tail)) (News.pick N₅ (by repeat (first | exact List.Mem.head _ | apply List.Mem.tail)) (News.pick N₅ (by repeat (first | exact List.Mem.head _ | apply List.Mem.tail)) (News.pick N₅ (by repeat (first | exact List.Mem.head _ | apply List.Mem.tail)) (News.pick N₅ (by repeat (first | exact List.Mem.head _ | apply List.Mem.tail)) News.nil))))))) (by repeat (first | exact List.Mem.head _ | apply List.Mem.tail)) (List.forall_mem_cons.mpr ⟨a1, (List.forall_mem_cons.mpr ⟨a2, (List.forall_mem_cons.mpr ⟨Nat.ne_of_lt (Nat.lt_succ_self (L + 1 + 1 + 1)), (List.forall_mem_cons.mpr ⟨a3, (List.forall_mem_cons.mpr ⟨Nat.ne_of_lt (Nat.lt_succ_of_lt (Nat.lt_succ_self (L + 1 + 1))), (List.forall_mem_cons.mpr ⟨a4, (fun _ h => nomatch h)⟩)⟩)⟩)⟩)⟩)⟩) ?_
  intro h₆ tk₆ Z oZs oZ ns F₆ N₆ dZ hoZ hns1 hns2
  refine tail11 R hs3 hoS hus dG F₆ N₆ (by repeat (first | exact List.Mem.head _ | apply List.Mem.tail)) (by repeat (first | exact List.Mem.head _ | apply List.Mem.tail)) ?_
  intro h₇ tk₇ tf F₇ N₇ hle
  have hT₇ := strTab_news hT₅ N₅ N₇ (o := oV) (by repeat (first | exact List.Mem.head _ | apply List.Mem.tail)) (by repeat (first | exact List.Mem.head _ | apply List.Mem.tail))
  refine tail12 R hk hoS hus dG dC hT₇ F₇ N₇ (by repeat (first | exact List.Mem.head _ | apply List.Mem.tail)) (by repeat (first | exact List.Mem.head _ | apply List.Mem.tail)) (oV := oV) (by repeat (first | exact List.Mem.head _ | apply List.Mem.tail)) (by repeat (first | exact List.Mem.head _ | apply List.Mem.tail)) ?_
  intro h₈ tk₈ U oU vs F₈ N₈ hoU hvs hle2
  refine tail13 R hk6 (counts_ok hk hns1) ?_ ?_ hoZ dZ hoU hvs F₈ N₈ (by repeat (first | exact List.Mem.head _ | apply List.Mem.tail)) (by repeat (first | exact List.Mem.head _ | apply List.Mem.tail)) (by repeat (first | exact List.Mem.head _ | apply List.Mem.tail))
  · have := congrArg List.length hns1
    rw [List.length_map, List.length_map] at this
    omega
  · intro p hp
    obtain ⟨h1, h2⟩ := hns2 p hp
    have hm : p.1 ∈ ns.map Prod.fst := List.mem_map_of_mem hp
    rw [hns1] at hm
    obtain ⟨t, ht, e⟩ := List.mem_map.mp hm
    have h3 := dec_len t
    have h4 := (htt t ht).1
    exact ⟨by omega, by omega, h1, Nat.lt_of_lt_of_le h2 (Nat.le_trans hle hle2)⟩
end
end

/-! ## part Law -/
section
open PySem PySem.W PyProof.Rows PySem.Calls

local macro_rules | `(tactic| walk_at "call type:enumerate") => `(tactic| (refine stop_ ?_))
local macro_rules | `(tactic| walk_at "call type") => `(tactic| (refine stop_ ?_))
local macro_rules | `(tactic| walk_at "call builtin:sum") => `(tactic| (refine stop_ ?_))
local macro_rules | `(tactic| walk_at "exec Assign cons BinOp") => `(tactic| ((fail_if_success (with_reducible show wpAny _ _ _ (CutP _) _ _)); refine stop_ ?_))
section
variable {w : World} {A : Around} {s : Shared} {E : Value → Shared → Prop}
set_option maxRecDepth 100000
set_option maxHeartbeats 8000000
theorem c_law {d : Addr} {vs : List Value} {ns : List Int} (R : Rd 4 w A s.heap) (hl : s.heap.IsList d vs.toArray) (hi : IntsAre vs ns) (hn : ns.length ≤ 63) :
    Ok w A (call (.ref 129) [.ref d]) (fun v s' => v = .bool true) s := by
  have RR := R
  obtain ⟨X, ⟨p, loose, mg, mb, T⟩, hA, hu, hh⟩ := R
  unfold Ok
  (
    refine' enterC (by assumption) (TopRead.nolimit (by assumption)) ?k6 ?k7 ?k8 ?k9 ?kB ?kD ?_ ?c2 ?c3 ?c4;
    (case k6 => k_is); (case k7 => k_is); (case k8 => ((have : recursionLimit = 1000 := rfl); omega)); (case k9 => first | exact BindsTo.of_eq rfl | exact binds_K (by k_in) rfl (by k_is) rfl rfl rfl); (case kB => exact rfl); (case kD => decide +kernel); (case c2 => exact rfl); (case c3 => exact rfl); (case c4 => exact rfl))
  clear hA hu
  intro L h₁ tk₀ cells F N Y
  obtain ⟨o1, o2, o3, o4, rfl, d1, d2, d3, d4⟩ : ∃ o1 o2 o3 o4 : Obj, cells = [(L + 1 + 1 + 1 + 1, o1), (L + 1 + 1 + 1, o2), (L + 1 + 1, o3), (L + 1, o4)] ∧ o1.data = .cell none ∧ o2.data = .cell none ∧ o3.data = .cell none ∧ o4.data = .cell none := by
    k_cells Y
    exact ⟨_, _, _, _, rfl, Eq.trans (by assumption) rfl, Eq.trans (by assumption) rfl, Eq.trans (by assumption) rfl, Eq.trans (by assumption) rfl⟩
  clear Y
  replace F : Fr s.heap L h₁ (mp [(Str.ofString "script", some (.ref d))]) := by
    refine (?_ : (bindL _ _ _) = mp _) ▸ F
    funext y
    rfl
  refine hideQ fun QQ hQQ => ?_
  have hl1 := fr_list F hl
  try k_fold
  k_steps
  try unfold Stop
  (rename Fr _ _ _ _ => F'); (rename News _ _ _ _ => N')
  refine compT_assign (fun i y => ∃ z k, y = Value.int (z : Int) k ∧ 0 ≤ z ∧ z < 1000000) (fun i a b => ∃ t u, a = .int i t ∧ b = .int ([15, 0, 1].getD i 0) u) hh rfl rfl (by decide) rfl (by decide) rfl rfl (by decide) rfl rfl ?_
  k_steps
  try unfold Stop
  try clear F'
  try clear N'
  (rename Fr _ _ _ _ => F'); (rename News _ _ _ _ => N')
  have hli := News.isList N' (.head _)
  refine enum_go hh hli fun h₂ I fp wr St Mid W hst0 hfp hwr hk2 hle2 => ?_
  have F₂ := F'.keeps hk2
  refine ⟨_, _, _, 3, _, _, _, _, rfl, W, by decide, ?_, hst0, hfp, ?_, F₂.ns, ?_, ?_⟩
  · rintro i vals ⟨t, x, hx, rfl⟩
    refine ⟨_, _, rfl, t, ?_⟩
    rcases i with _ | _ | _ | i
    · cases hx; exact ⟨_, rfl, rfl⟩
    · cases hx; exact ⟨_, rfl, rfl⟩
    · cases hx; exact ⟨_, rfl, rfl⟩
    · simp at hx
  · intro hm
    exact absurd (hwr _ hm) (Nat.not_le.mpr F'.ns.lt)
  · rintro C i v v₂ s₃ m₃ hC hi ⟨t, u, rfl, rfl⟩ hn hm hm₂ hk
    have kk := kept_wr hwr hk2 hk
    have hRd3 := (AllRd.of RR F').keeps kk
    obtain ⟨X3, ⟨p3, loose3, mg3, mb3, T3⟩, _, _, _⟩ := hRd3 default
    have hcell3 := kk _ _ (N' _ (.tail _ (.tail _ (.tail _ (.tail _ (.tail _ (.head _))))))).1
    have hnl3 := isL_of ⟨rfl, _, rfl⟩ (kk _ _ (N' _ (.tail _ (.head _))).1)
    clear hk
    try k_fold
    k_steps
    refine sumPick (s := { s₃ with toks := s₃.toks + 1 }) (show IntsAre _ (List.take 60 ns) by assumption) hnl3 (IsPart.int _ _) IsPart.none (IsPart.int _ _) (by decide) (by rw [IntsAre.length (show IntsAre _ (List.take 60 ns) by assumption)]; omega) ?_
    intro h₄ D₄ ws₄ ms₄ hk₄ hl₄ hi₄
    k_steps
    try unfold Stop
    refine sumK hh hl₄ hi₄ fun h₅ tk₅ t₅ hk₅ => ?_
    k_steps
    · exact ⟨h₅, _, rfl, fun b o e => hk₅ b o (hk₄ b o e)⟩
    · exact Int.fmod_nonneg_of_pos _ (by decide)
    · exact Int.fmod_lt_of_pos _ (by decide)
  · intro D h₃ tk₃ ys hD hl3 hsz3 hRR hns hk
    rw [show ys = ys.toList.toArray from by simp] at hl3
    obtain ⟨a, b, c, ta, tb, tc, hys, ha, hb, hc⟩ := three_ints hsz3 hRR
    rw [hys] at hl3
    obtain ⟨F₃, ⟨oD, hoD, N₃⟩, hkk, hHD⟩ := after_compW F' N' hwr hk2 hns hk hD hl3
    clear hns hk hRR hst0 hfp hwr hk2 hle2 W F₂ F' N' hkk hD hHD
    try k_fold
    k_steps
    try unfold Stop
    (rename Fr _ _ _ _ => F'); (rename News _ _ _ _ => N')
    refine Ok.use (c_alph (Rd.less (rdX RR F') (by decide)) hl3 ha hb hc) F' N' ?_
    rintro v h' tk' hk' F'' N'' ⟨Sd, us, rfl, hSd, hSl, hus⟩
    obtain ⟨oS, hoS, N₄⟩ := news_call F' N'' hSd hSl
    clear F' N' N'' hSd
    have hsg := alph_ok a b c
    generalize alph a b c = sg at hus hsg
    have hslen := hus.len_eq
    rw [List.length_map] at hslen
    have N₅ : News s.heap L h' ((L + 1 + 1, o3) :: [(Sd, oS), (L + 1 + 1 + 1, o2), (L + 1 + 1 + 1 + 1, o1)]) := (News.pick N₄ (by repeat (first | exact List.Mem.head _ | apply List.Mem.tail)) (News.pick N₄ (by repeat (first | exact List.Mem.head _ | apply List.Mem.tail)) (News.pick N₄ (by repeat (first | exact List.Mem.head _ | apply List.Mem.tail)) (News.pick N₄ (by repeat (first | exact List.Mem.head _ | apply List.Mem.tail)) News.nil))))
    have ap1 : Sd ≠ L + 1 + 1 := apart_lc N₅ (.tail _ (.head _)) (.head _) hoS d3
    clear N₄ hSl hl3
    k_steps
    try unfold Stop
    (rename Fr _ _ _ _ => F'); (rename News _ _ _ _ => N')
    have hSl := isL_of hoS (N' _ (.tail _ (.head _))).1
    have hs23 : sg.length ≤ 3 := by rcases hsg with ⟨f, _, rfl⟩ | ⟨f, x, _, rfl, _⟩ <;> simp
    refine cutE (fun s' => ∃ (h : Heap) (tk k : Nat) (t : Tok) (oG : Obj), s' = { s with heap := h, toks := tk } ∧ Fr s.heap L h (mp [(Str.ofString "script", some (.ref d)), (Str.ofString "draws", some (.ref D)), (Str.ofString "size", some (.int (k : Int) t)), (Str.ofString "texts", none), (Str.ofString "_", none), (Str.ofString "read", none), (Str.ofString "fed", none), (Str.ofString "due", none)]) ∧
      News s.heap L h [(L + 1 + 1, oG), (Sd, oS), (L + 1 + 1 + 1, o2), (L + 1 + 1 + 1 + 1, o1)] ∧ oG.data = .cell (some (.ref Sd)) ∧ ((k = 6 ∧ Sg2 sg) ∨ (k = 4 ∧ Sg3 sg))) ?_ ?_
    · k_steps
      · unfold Stop
        (rename Fr _ _ _ _ => F'); (rename News _ _ _ _ => N')
        exact CutP.mk ⟨_, _, 4, _, _, rfl, Fr.slot (Str.ofString "due") (Fr.slot (Str.ofString "fed") (Fr.slot (Str.ofString "read") (Fr.slot (Str.ofString "_") (Fr.slot (Str.ofString "texts") F')))), N', by assumption, .inr ⟨rfl, by
          rcases hsg with ⟨f, _, rfl⟩ | h
          · exfalso; simp only [List.length_cons, List.length_nil] at *; omega
          · exact h⟩⟩
      · unfold Stop
        (rename Fr _ _ _ _ => F'); (rename News _ _ _ _ => N')
        exact CutP.mk ⟨_, _, 6, _, _, rfl, Fr.slot (Str.ofString "due") (Fr.slot (Str.ofString "fed") (Fr.slot (Str.ofString "read") (Fr.slot (Str.ofString "_") (Fr.slot (Str.ofString "texts") F')))), N', by assumption, .inl ⟨rfl, by
          rcases hsg with h | ⟨f, x, _, rfl, _⟩
          · exact h
          · exfalso; simp only [List.length_cons, List.length_nil] at *; omega⟩⟩
    · rintro _ ⟨h, tk, k, tz, oG, rfl, F₁, N₁, dG, hk46⟩
      clear F' N' hl1 hli hSl
      have hk6 : k = 6 ∨ k = 4 := hk46.elim (fun h => .inl h.1) (fun h => .inr h.1)
      dsimp only
      try k_fold
      k_steps
      try unfold Stop
      (rename Fr _ _ _ _ => F'); (rename News _ _ _ _ => N'); (rename IsRange _ _ _ _ _ _ _ _ => hR)
      have hsp : sg.length ^ (k - 1 + 1) ≤ 1000 := by
        rcases hk46 with ⟨rfl, f, _, rfl⟩ | ⟨rfl, f, x, _, rfl, _⟩ <;> simp
      have hold : ∀ p ∈ [(L + 1 + 1, oG), (Sd, oS), (L + 1 + 1 + 1, o2), (L + 1 + 1 + 1 + 1, o1)], p.1 ≠ _ := fun p hp => Nat.ne_of_lt (Heap.lt_size (N' p (.tail _ hp)).1)
      refine for_rangeN (n := k) (fun i m news => ∃ (T : Addr) (oT : Obj) (ws : List Value) (vu : Option Value), news = (T, oT) :: [(L + 1 + 1, oG), (Sd, oS), (L + 1 + 1 + 1, o2), (L + 1 + 1 + 1 + 1, o1)] ∧ T ≠ _ ∧ (oT.cls = .type "list" ∧ ∃ n, oT.data = .seq ws.toArray n) ∧ StrsAre ws ((prod sg i).map S) ∧ m = mp [(Str.ofString "script", some (.ref d)), (Str.ofString "draws", some (.ref D)), (Str.ofString "size", some (.int (k : Int) tz)), (Str.ofString "texts", some (.ref T)), (Str.ofString "_", vu), (Str.ofString "read", none), (Str.ofString "fed", none), (Str.ofString "due", none)]) hh rfl rfl rfl F' N' hR (by omega) (by omega) (by omega)
        ⟨_, _, [_], none, rfl, Nat.ne_of_lt (Heap.lt_size (N' _ (.head _)).1), ⟨rfl, _, rfl⟩, .cons _ _ .nil, rfl⟩ ?_ ?_ ?_
      · rintro i m news ⟨T, oT, ws, vu, rfl, hT, _⟩ p hp
        rcases List.mem_cons.mp hp with rfl | hp
        · exact hT
        · exact hold p hp
      · rintro i t m news h₂ tk₂ I oI hi ⟨T, oT, ws, vu, rfl, hT, hoT, hws, rfl⟩ hI F₂ N₂
        replace F₂ := Fr.up F₂
        clear F' N' hR
        refine hideQ fun QT hQT => ?_
        try k_fold
        k_steps
        try unfold Stop
        have hb : sg.length ^ (i + 1) ≤ 1000 := by
          refine Nat.le_trans (Nat.pow_le_pow_right ?_ (by omega : i + 1 ≤ k - 1 + 1)) hsp
          rcases hk46 with ⟨_, f, _, rfl⟩ | ⟨_, f, x, _, rfl, _⟩ <;> simp
        refine comp2_assign hh (GT sg i) (fun _ _ _ h => GT.size hb h) (GT.zero sg i) rfl rfl (by decide) rfl (by decide) rfl rfl (by decide) rfl rfl ?_
        k_steps
        try unfold Stop
        (rename Fr _ _ _ _ => F'); (rename News _ _ _ _ => N')
        have hTl := isL_of hoT (N' _ (.tail _ (.head _))).1
        have hSl := isL_of hoS (N' _ (.tail _ (.tail _ (.tail _ (.head _))))).1
        have hTlt := Heap.lt_size (N' _ (.tail _ (.head _))).1
        refine wpAny_pyIter_list hTl ?_
        have hRd := AllRd.of RR F'
        have hcell := (N' _ (.tail _ (.tail _ (.head _)))).1
        refine ⟨_, _, _, _, _, _, Sd, us, rfl, Itr.list (A := A.deeper _) hh _ T (Nat.ne_of_lt hTlt) ws, ⟨⟨_, Heap.get?_push_size _ rfl, rfl, rfl⟩, hTl.push _⟩, ?_, ?_, (F'.push _).ns, hSl.push _, ?_, ?_, ?_, ?_, ?_⟩
        · intro b hb
          show b < (Heap.push _ _).objs.size
          rw [Heap.size_push]
          rcases List.mem_cons.mp hb with rfl | hb
          · exact Nat.lt_succ_self _
          · rw [List.mem_singleton.mp hb]; exact Nat.lt_succ_of_lt hTlt
        · exact Nat.ne_of_lt F'.ns.lt
        · exact Nat.ne_of_lt (Heap.lt_size (N' _ (.tail _ (.tail _ (.tail _ (.head _))))).1)
        · intro i' ys hi' hg
          rw [hslen] at hg
          exact GT.next hg
        · intro C s₃ m₃ hC hn hk
          have kk := kept_push' hk
          have hcell3 := kk _ _ hcell
          clear hk
          k_steps
          exact ⟨_, _, rfl, fun _ _ e => e⟩
        · intro C i' j v u t' ys s₃ m₃ hC hi' hv hu' hg hn hm hm' hk
          have kk := kept_push' hk
          have hRd3 := hRd.keeps kk
          obtain ⟨X3, ⟨p3, loose3, mg3, mb3, T3⟩, _, _, _⟩ := hRd3 default
          obtain ⟨x1, k1, hx1, rfl⟩ := strs_get hws hv
          obtain ⟨x2, k2, hx2, rfl⟩ := strs_get hus hu'
          rw [List.getElem?_map] at hx1 hx2
          obtain ⟨t1, ht1, rfl⟩ := Option.map_eq_some_iff.mp hx1
          obtain ⟨c2, hc2, rfl⟩ := Option.map_eq_some_iff.mp hx2
          have ht1m := (prod_mem sg i t1 (List.mem_of_getElem? ht1)).1
          clear hk
          k_steps
          try unfold Stop
          refine Ok.useK (c_concat (Rd.less (hRd3 _) (by decide)) (by omega) (by simp)) ?_
          intro z h₅ tk₅ hk₅ hz
          obtain ⟨kz, rfl⟩ := hz
          k_steps
          · exact ⟨_, _, rfl, hk₅⟩
          · exact GT.step hg ht1 hc2
        · intro D₂ h₅ tk₅ ys hD hl5 hg hns hk
          rw [show ys = ys.toList.toArray from by simp] at hl5
          obtain ⟨F₅, ⟨oD₂, hoD₂, N₅⟩, hkk, hHD⟩ := after_compW F' N' (wr := [_]) (fun b hb => Nat.le_of_eq (List.mem_singleton.mp hb).symm) (fun b o e => Heap.get?_push_of_some _ e) hns (fun b o hb hw e => hk b o hb (fun q => hw (List.mem_singleton.mpr q)) e) hD hl5
          have hwl := hws.len_eq
          rw [List.length_map] at hwl
          rw [hwl] at hg
          have hDI : D₂ ≠ I := by
            intro e
            rw [e] at hHD
            rw [(N' _ (.head _)).1] at hHD
            cases hHD
          subst hQT
          refine wpAny_execs_nil (TurnPost.next F₅ (News.sub N₅ (a := (D₂, oD₂) :: (I, oI) :: (T, oT) :: [(L + 1 + 1, oG), (Sd, oS), (L + 1 + 1 + 1, o2), (L + 1 + 1 + 1 + 1, o1)]) (b := (I, oI) :: (D₂, oD₂) :: [(L + 1 + 1, oG), (Sd, oS), (L + 1 + 1 + 1, o2), (L + 1 + 1 + 1 + 1, o1)]) ?_) ⟨D₂, oD₂, ys.toList, some (.int (0 + (i : Int)) t), rfl, hI ▸ hDI, hoD₂, GT.all hg, rfl⟩)
          intro p hp
          rcases List.mem_cons.mp hp with rfl | hp
          · exact .tail _ (.head _)
          · rcases List.mem_cons.mp hp with rfl | hp
            · exact .head _
            · exact .tail _ (.tail _ (.tail _ hp))
      · rintro m news h₂ tk₂ ⟨T, oT, ws, vu, rfl, hT, hoT, hws, rfl⟩ F₂ N₂
        clear F' N' hR hT hold
        try k_fold
        have hwl := hws.len_eq
        have hpl : (prod sg k).length ≤ 1000 := by rw [prod_len]; refine Nat.le_trans ?_ hsp; rcases hk6 with rfl | rfl <;> exact Nat.le_refl _
        rw [List.length_map] at hwl
        k_steps
        try unfold Stop
        refine cutE (fun s' => ∃ (h : Heap) (tk : Nat) (TX : Addr) (oX : Obj) (xs : List Value) (vu : Option Value), s' = { s with heap := h, toks := tk } ∧ Fr s.heap L h (mp [(Str.ofString "script", some (.ref d)), (Str.ofString "draws", some (.ref D)), (Str.ofString "size", some (.int (k : Int) tz)), (Str.ofString "texts", some (.ref TX)), (Str.ofString "_", vu), (Str.ofString "read", none), (Str.ofString "fed", none), (Str.ofString "due", none)]) ∧
          News s.heap L h [(TX, oX), (L + 1 + 1, oG), (Sd, oS), (L + 1 + 1 + 1, o2), (L + 1 + 1 + 1 + 1, o1)] ∧ (oX.cls = .type "list" ∧ ∃ n, oX.data = .seq (List.toArray xs) n) ∧ StrsAre xs (([] :: prod sg k).map S)) ?_ ?_
        · k_steps
          (rename Fr _ _ _ _ => F'); (rename News _ _ _ _ => N')
          have hTl' := isL_of hoT (N' _ (.tail _ (.head _))).1
          have hsl : sizeLine = 16777216 := rfl
          refine add_lists (vs := [.str (Str.ofString "") tk₂]) F' N' (News.isList N' (.head _)) hTl' ?_ (hsz := by simp only [List.length_cons, List.length_nil]; omega)
          intro h₃ F₃ N₃
          k_steps
          try unfold Stop
          (rename Fr _ _ _ _ => F'); (rename News _ _ _ _ => N')
          refine CutP.mk ⟨_, _, _, { cls := .type "list", data := .seq ([Value.str (Str.ofString "") tk₂] ++ ws).toArray }, [.str (Str.ofString "") tk₂] ++ ws, vu, rfl, F', News.sub N' ?_, ⟨rfl, _, rfl⟩, .cons _ _ hws⟩
          intro p hp
          rcases List.mem_cons.mp hp with rfl | hp
          · exact .head _
          · exact .tail _ (.tail _ (.tail _ hp))
        · clear F₂ N₂ hwl hws hoT
          rintro _ ⟨h₂, tk₂, TX, oX, xs, vu, rfl, F₂, N₂, hoX, hxs⟩
          subst hQQ
          exact tailAll RR hk46 hus hoS hoX hxs dG d2 d1 F₂ N₂
end
end
end Mine
end

open PySem PySem.W PyProof.Rows PySem.Calls
set_option maxRecDepth 100000 in
set_option maxHeartbeats 8000000 in
theorem PySem.Challenge.cw_rs0071_01_holds : PySem.Challenge.rw_rs0071_01.Holds := by
  refine Mine.hd ?_
  k_fill
  intro w s₀ s₁ mg mb G Y fa o pm cd doc dV kV ho hd hcd hD hmg hg args vals as hpre hlay hrd hwl hlo
  have KX := kIn_of Y
  refine Ground.open G ?_
  intro T B D TE TW
  try (refine guard_noD D (by decide +kernel) ?_; clear D)
  have hfa := mg_of KX T.g (show nsIn (Mine.hd.heap_39 w.params) mainGlobals (Str.ofString "law") = some (some (.ref 129)) by k_is)
  have e : some (Value.ref fa) = some (Value.ref 129) := hmg.symm.trans hfa
  injection e with e
  injection e with e
  subst e
  clear ho hd hcd hD hmg
  wrow_args hpre hlay hrd hwl hlo
  rename Heap.IsList _ _ _ => hL
  rename IntsAre _ _ => hI
  rename (¬ _ < _) => hlen
  refine wpAny_mono (Mine.c_law (s := s₁) ⟨KX, ⟨_, _, _, _, topRead_of T⟩, by decide, by decide, rfl⟩ hL hI (by omega)) (fun v s' hv => ?_) (fun _ _ e => e.elim)
  obtain ⟨⟨h', tk, rfl, k⟩, rfl⟩ := hv
  refine GoodW.toG ⟨.inl ⟨_, _, _, rfl, raisesW_false (by wrow_none_raised), .bool true, by wrow_post, unshared_nil⟩, k, rfl, hg⟩
