import PyProof.Rows.All
import Wide.All
import OpenK.AllK
import Wide.FinOn
import PySem.Challenge.RW_tl0013_01
open PySem PySem.W PySem.Spec PySem.Calls PyProof.Rows
set_option Elab.async false
set_option maxRecDepth 100000
set_option maxHeartbeats 8000000

namespace Mine

section
/-- the text, and what of it stands in view (all but the five rows that set __name__) -/
abbrev PW : Program := PySem.Challenge.rw_tl0013_01.row.prog
noncomputable def MQ : Program := view PW [1, 2, 3, 4, 5, 6, 7, 9, 10, 12, 13, 15, 16, 17, 19, 20, 21, 22, 23, 24, 25, 26, 27, 28]
section
variable {i : Nat} {n : Str} {a : Arguments} {b : List Stmt} {sc : Scope} {ps : Pos}
abbrev At (i : Nat) (n : Str) (a : Arguments) (b : List Stmt) (sc : Scope) (ps : Pos) : Prop := PW.main.body[i]? = some (.FunctionDef n a b [] none [] sc none n ps)
/-- what stands in the heap of the def that is the text's i-th row: its code, itself, its name in the globals -/
abbrev codeAt (_ : At i n a b sc ps) (line argc : Int) (tk T : Nat) (c8 c11 c13 c14 c15 : Value) : Obj :=
  { cls := .type "code", data := .fields #[.str n tk, .str n (tk + 1), .str "/claim/cut.py" (tk + 2), .int line 0, .int argc 0, .int 0 0, .int 0 0, .int 3 0, c8, .bool true, .int 181 0, c11, .none, c13, c14, c15, .int T 0, .int line 0, .str "/claim/cut.py" (T + 1)] }
abbrev funAt (_ : At i n a b sc ps) (md : Str) (mt : Nat) (c : Addr) : Obj :=
  { cls := .type "function", data := .func { name := n, qualname := n, params := a, body := .stmts b, scope := sc, globals := 3, closure := [], defaults := .none, kwdefaults := .none, pyModule := .str md mt, code := .ref c } }
abbrev keyed (P : Params) (x : Str) (tk : Nat) (v : Value) : DictEntry := { hash := PyData.keyHash P x, key := .str x tk, val := v }
abbrev entAt (P : Params) (_ : At i n a b sc ps) (tk : Nat) (f : Addr) : DictEntry := keyed P n tk (.ref f)
end
set_option maxRecDepth 100000 in
noncomputable def KK : Params → Frag := fun P =>
  (nat_lit 2, { cls := .none, data := .dict #[] 0 }) ::
  (nat_lit 3, { cls := .type "dict", data := .dict (keyed P "__name__" 165 (.str "law_tl0013_01" 328) ::
    keyed P "__doc__" 166 .none ::
    keyed P "__package__" 167 .none ::
    keyed P "__loader__" 168 (.builtin "__main__.__loader__#opaque") ::
    keyed P "__spec__" 169 .none ::
    keyed P "__annotations__" 170 (.ref 6) ::
    keyed P "__builtins__" 171 (.ref 4) ::
    keyed P "__file__" 173 (.str "/claim/cut.py" 172) ::
    keyed P "__cached__" 174 .none ::
    keyed P "_DIV_LIMIT" 190 (.int 4000 189) ::
    entAt P (i := 2) rfl 207 21 ::
    entAt P (i := 3) rfl 221 28 ::
    entAt P (i := 4) rfl 232 35 ::
    entAt P (i := 5) rfl 243 42 ::
    entAt P (i := 6) rfl 258 49 ::
    entAt P (i := 7) rfl 268 56 ::
    entAt P (i := 9) rfl 288 63 ::
    entAt P (i := 10) rfl 302 70 ::
    keyed P "ENDMARKER" 306 (.int 0 305) ::
    entAt P (i := 13) rfl 313 77 ::
    keyed P "_MOVE_COST" 317 (.int 2 316) ::
    keyed P "_CASE_COST" 319 (.int 1 318) ::
    entAt P (i := 17) rfl 327 84 ::
    entAt P (i := 19) rfl 339 91 ::
    entAt P (i := 20) rfl 351 98 ::
    entAt P (i := 21) rfl 357 103 ::
    entAt P (i := 22) rfl 365 110 ::
    entAt P (i := 23) rfl 371 115 ::
    entAt P (i := 24) rfl 377 120 ::
    entAt P (i := 25) rfl 385 127 ::
    entAt P (i := 26) rfl 391 132 ::
    entAt P (i := 27) rfl 397 137 ::
    entAt P (i := 28) rfl 403 142 :: []).toArray 33 }) ::
  (nat_lit 20, codeAt (i := 2) rfl 3 3 191 205 (.ref 15) (.ref 16) (.ref 17) (.ref 18) (.ref 19)) :: (nat_lit 21, funAt (i := 2) rfl "cpy313._pylong" 187 20) ::
  (nat_lit 27, codeAt (i := 3) rfl 19 6 208 219 (.ref 22) (.ref 23) (.ref 24) (.ref 25) (.ref 26)) :: (nat_lit 28, funAt (i := 3) rfl "cpy313._pylong" 187 27) ::
  (nat_lit 34, codeAt (i := 4) rfl 29 2 222 230 (.ref 29) (.ref 30) (.ref 31) (.ref 32) (.ref 33)) :: (nat_lit 35, funAt (i := 4) rfl "cpy313._pylong" 187 34) ::
  (nat_lit 41, codeAt (i := 5) rfl 45 2 233 241 (.ref 36) (.ref 37) (.ref 38) (.ref 39) (.ref 40)) :: (nat_lit 42, funAt (i := 5) rfl "cpy313._pylong" 187 41) ::
  (nat_lit 48, codeAt (i := 6) rfl 54 2 244 256 (.ref 43) (.ref 44) (.ref 45) (.ref 46) (.ref 47)) :: (nat_lit 49, funAt (i := 6) rfl "cpy313._pylong" 187 48) ::
  (nat_lit 55, codeAt (i := 7) rfl 65 2 259 266 (.ref 50) (.ref 51) (.ref 52) (.ref 53) (.ref 54)) :: (nat_lit 56, funAt (i := 7) rfl "cpy313._pylong" 187 55) ::
  (nat_lit 62, codeAt (i := 9) rfl 77 3 271 286 (.ref 57) (.ref 58) (.ref 59) (.ref 60) (.ref 61)) :: (nat_lit 63, funAt (i := 9) rfl "cpy313.colorsys" 269 62) ::
  (nat_lit 69, codeAt (i := 10) rfl 96 3 289 300 (.ref 64) (.ref 65) (.ref 66) (.ref 67) (.ref 68)) :: (nat_lit 70, funAt (i := 10) rfl "cpy313.colorsys" 269 69) ::
  (nat_lit 76, codeAt (i := 13) rfl 119 1 307 311 (.ref 71) (.ref 72) (.ref 73) (.ref 74) (.ref 75)) :: (nat_lit 77, funAt (i := 13) rfl "cpy313.token" 303 76) ::
  (nat_lit 83, codeAt (i := 17) rfl 124 2 320 325 (.ref 78) (.ref 79) (.ref 80) (.ref 81) (.ref 82)) :: (nat_lit 84, funAt (i := 17) rfl "cpy313.traceback" 314 83) ::
  (nat_lit 90, codeAt (i := 19) rfl 131 1 330 337 (.ref 85) (.ref 86) (.ref 87) (.ref 88) (.ref 89)) :: (nat_lit 91, funAt (i := 19) rfl "law_tl0013_01" 328 90) ::
  (nat_lit 97, codeAt (i := 20) rfl 136 1 340 349 (.ref 92) (.ref 93) (.ref 94) (.ref 95) (.ref 96)) :: (nat_lit 98, funAt (i := 20) rfl "law_tl0013_01" 328 97) ::
  (nat_lit 102, codeAt (i := 21) rfl 148 1 352 355 (.ref 99) (.ref 100) .none .none (.ref 101)) :: (nat_lit 103, funAt (i := 21) rfl "law_tl0013_01" 328 102) ::
  (nat_lit 109, codeAt (i := 22) rfl 150 2 358 363 (.ref 104) (.ref 105) (.ref 106) (.ref 107) (.ref 108)) :: (nat_lit 110, funAt (i := 22) rfl "law_tl0013_01" 328 109) ::
  (nat_lit 114, codeAt (i := 23) rfl 152 1 366 369 (.ref 111) (.ref 112) .none .none (.ref 113)) :: (nat_lit 115, funAt (i := 23) rfl "law_tl0013_01" 328 114) ::
  (nat_lit 119, codeAt (i := 24) rfl 154 1 372 375 (.ref 116) (.ref 117) .none .none (.ref 118)) :: (nat_lit 120, funAt (i := 24) rfl "law_tl0013_01" 328 119) ::
  (nat_lit 126, codeAt (i := 25) rfl 170 2 378 383 (.ref 121) (.ref 122) (.ref 123) (.ref 124) (.ref 125)) :: (nat_lit 127, funAt (i := 25) rfl "law_tl0013_01" 328 126) ::
  (nat_lit 131, codeAt (i := 26) rfl 174 1 386 389 (.ref 128) (.ref 129) .none .none (.ref 130)) :: (nat_lit 132, funAt (i := 26) rfl "law_tl0013_01" 328 131) ::
  (nat_lit 136, codeAt (i := 27) rfl 184 3 392 395 (.ref 133) (.ref 134) .none .none (.ref 135)) :: (nat_lit 137, funAt (i := 27) rfl "law_tl0013_01" 328 136) ::
  (nat_lit 141, codeAt (i := 28) rfl 194 1 398 401 (.ref 138) (.ref 139) .none .none (.ref 140)) :: (nat_lit 142, funAt (i := 28) rfl "law_tl0013_01" 328 141) :: []
/-- the addresses that KK speaks of -/
abbrev KA : List Addr := [2, 3, 20, 21, 27, 28, 34, 35, 41, 42, 48, 49, 55, 56, 62, 63, 69, 70, 76, 77, 83, 84, 90, 91, 97, 98, 102, 103, 109, 110, 114, 115, 119, 120, 126, 127, 131, 132, 136, 137, 141, 142]
noncomputable abbrev HH : Hook := kmHook KK KA (fun _ => by kernel_rfl) [30, 37]
/-- the run of the text's top, in one check -/
theorem left : LeftO PW MQ [] (fun s => xlAt MQ [] s && recOk PySem.Challenge.rw_tl0013_01.row.toRowW.records s) (Hook.obs HH) (Hook.val HH) 1542 := fun w => by kernel_rfl
theorem said : PySem.Challenge.rw_tl0013_01.wellSaid = true := by kernel_rfl
end

section
abbrev Led := List (Addr × Obj)
abbrev MyProg : Program := PySem.Challenge.rw_tl0013_01.row.prog

/-- what a call of a def promises: it ends and hands back r over a longer ledger -/
abbrev CallSpec (w : World) (f : Addr) (vs : List Value) (news : Led) (D : Nat) (Out : Led → Value → Prop) : Prop :=
  ∀ (p : Program) (loose : List Str) (mean : ExcName → Option Value) (mg mb : Str → Option Value)
    (dp un : Nat) (gd : Option (List Code)) (cn : Str) (cs : Scope) (a : Addr) (ccd : Value) (cl : List (Str × Addr)) (outer : List Env) (A₀ : Around) (base h₀ : Heap) (L : Addr) (m : Str → Option Value) (s : Shared) (Q E : Value → Shared → Prop),
    Below A₀ base outer h₀ → Fr h₀ L s.heap m → (KK w.params).In h₀ → News h₀ L s.heap news → Top p loose mean mg mb h₀ → cs.kind = .function →
    dp + D < recursionLimit → un + 8 * D < cLine →
    (∀ r tl h' tk', Fr h₀ L h' m → News h₀ L h' (tl ++ news) → (∀ q ∈ news, ∀ p ∈ tl, q.1 ≠ p.1) → Out tl r → Q r { s with heap := h', toks := tk' }) →
      wpAny (model MyProg w) (ktrTop dp un gd cn cs L a ccd cl outer) (call (.ref f) vs) Q E s

theorem ord_one {news : Led} {a : Addr} {o : Obj} (h : ∀ p ∈ news, p.1 ≠ a) : ∀ q ∈ news, ∀ p ∈ [(a, o)], q.1 ≠ p.1 := fun q hq p hp => by
  rw [List.mem_singleton.mp hp]; exact h q hq
theorem ne_of_off1 {news : Led} {a : Addr} (h : LCg.Off1 a news) : ∀ p ∈ news, p.1 ≠ a := by
  induction news with
  | nil => exact fun _ h => nomatch h
  | cons q r ih =>
    intro p hp
    rcases List.mem_cons.mp hp with rfl | hp
    · exact h.1
    · exact ih h.2 p hp
section
variable {h₀ : Heap} {L : Addr} {m : Str → Option Value} {news : Led} {s : Shared} {Q : Value → Shared → Prop} {Out : Led → Value → Prop}
abbrev RetOf (h₀ : Heap) (L : Addr) (m : Str → Option Value) (news : Led) (s : Shared) (Q : Value → Shared → Prop) (Out : Led → Value → Prop) : Prop :=
  ∀ r tl h' tk', Fr h₀ L h' m → News h₀ L h' (tl ++ news) → (∀ q ∈ news, ∀ p ∈ tl, q.1 ≠ p.1) → Out tl r → Q r { s with heap := h', toks := tk' }
theorem ret0 (hret : RetOf h₀ L m news s Q Out) {r : Value} {h' : Heap} {tk' : Nat} (F : Fr h₀ L h' m) (N : News h₀ L h' news) (o : Out [] r) : Q r { s with heap := h', toks := tk' } :=
  hret r [] h' tk' F N (fun _ _ _ h => nomatch h) o
theorem ret1 (hret : RetOf h₀ L m news s Q Out) {r : Value} {a : Addr} {ob : Obj} {h' : Heap} {tk' : Nat} (F : Fr h₀ L h' m) (N : News h₀ L h' ((a, ob) :: news)) (l : ∀ p ∈ news, p.1 < a) (o : Out [(a, ob)] r) :
    Q r { s with heap := h', toks := tk' } := hret r [(a, ob)] h' tk' F N (ord_one fun p hp => Nat.ne_of_lt (l p hp)) o
theorem ret1N (hret : RetOf h₀ L m news s Q Out) {r : Value} {a : Addr} {ob : Obj} {h' : Heap} {tk' : Nat} (F : Fr h₀ L h' m) (N : News h₀ L h' ((a, ob) :: news)) (l : ∀ p ∈ news, p.1 ≠ a) (o : Out [(a, ob)] r) :
    Q r { s with heap := h', toks := tk' } := hret r [(a, ob)] h' tk' F N (ord_one l) o
end
section
variable {prog : Program} {w : World} {A : Around} {E : Value → Shared → Prop} {s : Shared} {h₀ : Heap} {L l : Addr} {m : Str → Option Value} {news : Led}
theorem isList_of (N : News h₀ L s.heap news) {its : Array Value} {n : Nat} (hm : (l, W.listOf its n) ∈ news) : s.heap.IsList l its := ⟨_, (N _ hm).1, rfl, n, rfl⟩
theorem item_led {value slice : Expr} {its : List Value} {n : Nat} {k : Int} {u : Tok} {v : Value} {Q : Value → Shared → Prop}
    (N : News h₀ L s.heap news) (hm : (l, W.listOf its.toArray n) ∈ news) (h0 : 0 ≤ k) (hhi : k < 2 ^ 63) (hx : its[k.toNat]? = some v) (h : Q v s)
    (hs : subscripted slice false (.ref l) (.int k u) = operate [.ref l, .int k u] (getItem (.ref l) (.int k u)) := by with_unfolding_all rfl) :
    wpAny (model prog w) A (subscriptTail value slice (.ref l) (.int k u)) Q E s :=
  have hL := isList_of N hm
  tail_any hL.typeIs slot_list_getitem.lookup (wpAny_getItem_list hL h0 hhi (by simpa using hx) h) hs
end
/-- the ledger with the entry at D replaced -/
def updL (D : Addr) (o : Obj) (led : Led) : Led := led.map fun p => if p.1 = D then (D, o) else p
theorem updL_mem {D : Addr} {o : Obj} {led : Led} {p : Addr × Obj} (hm : p ∈ led) (h : p.1 ≠ D) : p ∈ updL D o led :=
  List.mem_map.mpr ⟨p, hm, if_neg h⟩
theorem updL_new {D : Addr} {o o' : Obj} {led : Led} (hm : (D, o) ∈ led) : (D, o') ∈ updL D o' led :=
  List.mem_map.mpr ⟨(D, o), hm, if_pos rfl⟩
theorem news_updL {h₀ h h' : Heap} {L D : Addr} {led : Led} {o o' : Obj} (N : News h₀ L h led) (hm : (D, o) ∈ led) (hs : Heap.SameBut D h h') (ho : h'.get? D = some o') : News h₀ L h' (updL D o' led) := by
  intro p hp
  obtain ⟨q, hq, e⟩ := List.mem_map.mp hp
  by_cases h1 : q.1 = D
  · rw [if_pos h1] at e
    subst e
    exact ⟨ho, (N _ hm).2⟩
  · rw [if_neg h1] at e
    subst e
    exact ⟨(hs.2 _ h1).trans (N _ hq).1, (N _ hq).2⟩
theorem news_sub {h₀ h : Heap} {L : Addr} {led led' : Led} (N : News h₀ L h led) (hs : ∀ p ∈ led', p ∈ led) : News h₀ L h led' := fun p hp => N p (hs p hp)
section
variable {prog : Program} {w : World} {A : Around} {E : Value → Shared → Prop} {s : Shared} {h₀ : Heap} {L D : Addr} {m : Str → Option Value} {news : Led}
theorem append_led {its : Array Value} {n : Nat} {x : Value} {Q : Value → Shared → Prop} (F : Fr h₀ L s.heap m) (N : News h₀ L s.heap news) (hm : (D, W.listOf its n) ∈ news)
    (h : ∀ h', Fr h₀ L h' m → News h₀ L h' (updL D (W.listOf (its.push x) (n + 1)) news) → Q .none { s with heap := h' }) (hsz : its.size ≤ sizeLine := by size_fits) : wpAny (model prog w) A (call (.builtin "list.append") [.ref D, x]) Q E s := by
  have z := N _ hm
  exact append_at (hsz := hsz) z.1 fun h' hs ho' => h h' (F.change hs z.2.1 z.2.2) (news_updL N hm hs ho')
theorem set_led {vs : List Value} {n : Nat} {k : Int} {t : Tok} {v : Value} {Q : Unit → Shared → Prop} (F : Fr h₀ L s.heap m) (N : News h₀ L s.heap news) (hm : (D, W.listOf vs.toArray n) ∈ news) (h0 : 0 ≤ k) (h1 : k < (vs.length : Int)) (hfit : k < 2 ^ 63)
    (h : ∀ h', Fr h₀ L h' m → News h₀ L h' (updL D (W.listOf (vs.set k.toNat v).toArray n) news) → Q () { s with heap := h' }) : wpAny (model prog w) A (setItem (.ref D) (.int k t) v) Q E s := by
  have z := N _ hm
  have hs : vs.toArray.size = vs.length := List.size_toArray ..
  refine ki_setAt z.1 h0 hfit (by omega) (h _ (F.change (Heap.SameBut.update ..) z.2.1 z.2.2) (news_updL N hm (Heap.SameBut.update ..) ?_))
  have q := PySem.IsL.update z.1 (fun xs => xs.setIfInBounds k.toNat v)
  have e : vs.toArray.setIfInBounds k.toNat v = (vs.set k.toNat v).toArray := by
    apply Array.toList_inj.mp
    simp
  rw [e] at q
  simpa using q
theorem tup_led {value slice : Expr} {its : List Value} {n : Nat} {k : Int} {u : Tok} {v : Value} {Q : Value → Shared → Prop}
    (N : News h₀ L s.heap news) (hm : (D, ({ cls := .type "tuple", data := .seq its.toArray n } : Obj)) ∈ news) (h0 : 0 ≤ k) (hhi : k < 2 ^ 63) (hx : its[k.toNat]? = some v) (h : Q v s)
    (hs : subscripted slice false (.ref D) (.int k u) = operate [.ref D, .int k u] (getItem (.ref D) (.int k u)) := by with_unfolding_all rfl) :
    wpAny (model prog w) A (subscriptTail value slice (.ref D) (.int k u)) Q E s := by
  have hlt := (List.getElem?_eq_some_iff.mp hx).1
  refine item_tupleT (j := k.toNat) ⟨_, (N _ hm).1, rfl, n, rfl⟩ (by lia) hhi ?_ hx h hs
  have e1 : ¬ k < 0 := by omega
  have e2 : (decide (0 ≤ k) && decide (k < (its.length : Int))) = true := by simp; lia
  simp only [seqIndex?, e1, if_false, e2, if_true]
theorem len_led {its : List Value} {n z : Nat} {Q : Value → Shared → Prop} (N : News h₀ L s.heap news) (hm : (D, W.listOf its.toArray n) ∈ news) (hz : its.length = z) (hf : z < 2 ^ 62)
    (h : ∀ t k, Q (.int (z : Int) t) { s with toks := k }) : wpAny (model prog w) A (call (.builtin "len") [.ref D]) Q E s := by
  refine len_list (isList_of N hm) ?_ ?_
  · simp [hz]; omega
  · have e : ((its.toArray.size : Nat) : Int) = (z : Int) := by simp [hz]
    rw [e]; exact h _ _
end
section
open PySem.Flt
variable {prog : Program} {w : World} {A : Around} {E : Value → Shared → Prop} {s : Shared} {t u : Tok} {Q : Value → Shared → Prop}
theorem not_over {n : Int} (h : n.natAbs < 1000000) : ¬ Over n := by
  unfold Over
  have e : (2 : Nat) ^ 1024 - 2 ^ 970 ≥ 1000000 := by decide +kernel
  omega
theorem div_if {a : UInt64} {n : Int} (hA : A.handled = none) (hn : n.natAbs < 1000000) (ha : Float64.isZero a = false)
    (h : Q (.float (Float64.div (Float64.ofInt n) a) s.toks) { s with toks := s.toks + 1 }) : wpAny (model prog w) A (binaryOp .Div (.int n u) (.float a t)) Q E s :=
  truediv_if hA (fun o => absurd o (not_over hn)) (fun _ z => by rw [ha] at z; cases z) (fun _ _ => h)
end
theorem call_use {w : World} {f : Addr} {vs : List Value} {news : Led} {D : Nat} {Out : Led → Value → Prop} (C : CallSpec w f vs news D Out) {p : Program} {loose : List Str} {mean : ExcName → Option Value} {mg mb : Str → Option Value}
    {dp un : Nat} {gd : Option (List Code)} {cn : Str} {cs : Scope} {a : Addr} {ccd : Value} {cl : List (Str × Addr)} {outer : List Env} {A₀ : Around} {base h₀ : Heap} {L : Addr} {m : Str → Option Value} {s : Shared} {Q E : Value → Shared → Prop}
    (B : Below A₀ base outer h₀) (F : Fr h₀ L s.heap m) (X : (KK w.params).In h₀) (N : News h₀ L s.heap news) (T : Top p loose mean mg mb h₀) (hk : cs.kind = .function)
    (hd : dp + D < recursionLimit) (hu : un + 8 * D < cLine)
    (ret : ∀ r tl h' tk', Fr h₀ L h' m → News h₀ L h' (tl ++ news) → (∀ q ∈ news, ∀ p ∈ tl, q.1 ≠ p.1) → Out tl r → Q r { s with heap := h', toks := tk' }) :
    wpAny (model MyProg w) (ktrTop dp un gd cn cs L a ccd cl outer) (call (.ref f) vs) Q E s :=
  C p loose mean mg mb dp un gd cn cs a ccd cl outer A₀ base h₀ L m s Q E B F X N T hk hd hu ret
theorem call_use2 {w : World} {f : Addr} {vs : List Value} {news : Led} {D : Nat} {Out : Led → Value → Prop} {p : Program} {loose : List Str} {mean : ExcName → Option Value} {mg mb : Str → Option Value}
    {dp un : Nat} {gd : Option (List Code)} {cn : Str} {cs : Scope} {a : Addr} {ccd : Value} {cl : List (Str × Addr)} {outer : List Env} {A₀ : Around} {base h₀ : Heap} {L : Addr} {m : Str → Option Value} {s : Shared} {Q E : Value → Shared → Prop}
    (B : Below A₀ base outer h₀) (F : Fr h₀ L s.heap m) (X : (KK w.params).In h₀) (N : News h₀ L s.heap news) (T : Top p loose mean mg mb h₀) (hk : cs.kind = .function) (C : CallSpec w f vs news D Out)
    (hd : dp + D < recursionLimit) (hu : un + 8 * D < cLine)
    (ret : ∀ r tl h' tk', Fr h₀ L h' m → News h₀ L h' (tl ++ news) → (∀ q ∈ news, ∀ p ∈ tl, q.1 ≠ p.1) → Out tl r → Q r { s with heap := h', toks := tk' }) :
    wpAny (model MyProg w) (ktrTop dp un gd cn cs L a ccd cl outer) (call (.ref f) vs) Q E s :=
  C p loose mean mg mb dp un gd cn cs a ccd cl outer A₀ base h₀ L m s Q E B F X N T hk hd hu ret
/-- the same, of a def that reads the script (a list of the base's) -/
abbrev CallSpecL (w : World) (f : Addr) (vs : List Value) (l : Addr) (its : List Value) (news : Led) (D : Nat) (Out : Led → Value → Prop) : Prop :=
  ∀ (p : Program) (loose : List Str) (mean : ExcName → Option Value) (mg mb : Str → Option Value)
    (dp un : Nat) (gd : Option (List Code)) (cn : Str) (cs : Scope) (a : Addr) (ccd : Value) (cl : List (Str × Addr)) (outer : List Env) (A₀ : Around) (base h₀ : Heap) (L : Addr) (m : Str → Option Value) (s : Shared) (Q E : Value → Shared → Prop),
    Below A₀ base outer h₀ → Fr h₀ L s.heap m → (KK w.params).In h₀ → News h₀ L s.heap news → Top p loose mean mg mb h₀ → cs.kind = .function → base.IsList l its.toArray →
    dp + D < recursionLimit → un + 8 * D < cLine →
    (∀ r tl h' tk', Fr h₀ L h' m → News h₀ L h' (tl ++ news) → (∀ q ∈ news, ∀ p ∈ tl, q.1 ≠ p.1) → Out tl r → Q r { s with heap := h', toks := tk' }) →
      wpAny (model MyProg w) (ktrTop dp un gd cn cs L a ccd cl outer) (call (.ref f) vs) Q E s
end

section
open PyProof.V
/-! loops by an invariant over the frame's map and the ledger -/
/-- what a turn's end asks -/
def TEnd (h₀ : Heap) (L : Addr) (wr : List Addr) (own : Led) (J : (Str → Option Value) → Led → Prop) (s₁ : Shared) (Q : Flow → Shared → Prop) (f : Flow) (s₂ : Shared) : Prop :=
  LoopStepV h₀ L wr own J s₁ (fun v s' => Q (.ret v) s') (fun s' => Q .next s') f s₂
section
variable {prog : Program} {w : World} {A : Around} {E : Value → Shared → Prop} {s : Shared} {env : Env} {h₀ : Heap} {target : Expr} {body : List Stmt} {Q : Flow → Shared → Prop}
theorem TEnd.next {L : Addr} {wr : List Addr} {own news' : Led} {J : (Str → Option Value) → Led → Prop} {s₁ : Shared} {m' : Str → Option Value} {h' : Heap} {tk : Nat}
    (F : Fr h₀ L h' m') (N : News h₀ L h' (own ++ news')) (off : ∀ p ∈ news', p.1 ∉ wr) (hj : J m' news') : TEnd h₀ L wr own J s₁ Q .next { s₁ with heap := h', toks := tk } :=
  ⟨rfl, h', tk, m', news', rfl, F, N, off, hj⟩
theorem TEnd.of {L : Addr} {wr : List Addr} {own led : Led} {J : (Str → Option Value) → Led → Prop} {s₁ : Shared} {m' : Str → Option Value} {h' : Heap} {tk : Nat}
    (F : Fr h₀ L h' m') (N : News h₀ L h' led) (x : ∃ news', J m' news' ∧ (∀ p ∈ news', p.1 ∉ wr) ∧ ∀ p ∈ own ++ news', p ∈ led) : TEnd h₀ L wr own J s₁ Q .next { s₁ with heap := h', toks := tk } :=
  let ⟨_, hj, off, sub⟩ := x; TEnd.next F (news_sub N sub) off hj
theorem TEnd.ret {L : Addr} {wr : List Addr} {own : Led} {J : (Str → Option Value) → Led → Prop} {s₁ s₂ : Shared} {v : Value} (h : Q (.ret v) s₂) : TEnd h₀ L wr own J s₁ Q (.ret v) s₂ := h

theorem letGo_name {x : Str} {px : Pos} {I v : Value} {Q' : Unit → Shared → Prop} (h : Q' () s) : wpAny (model prog w) A (letOwnedTupleGo (.Name x px) I v) Q' E s := wpAny_pure h

theorem range_turns {r : Addr} {t₀ u₀ v₀ : Tok} {n : Nat} {m₀ : Str → Option Value} {news : Led} {x : Str} {px : Pos} (J : Nat → (Str → Option Value) → Led → Prop)
    (hh : A.handled = none) (hr : IsRange s.heap r 0 (n : Int) 1 t₀ u₀ v₀) (hsmall : Builtin.Range.small 0 (n : Int) 1 = true) (F : Fr h₀ env.locals s.heap m₀) (N : News h₀ env.locals s.heap news) (h0 : J 0 m₀ news)
    (turn : ∀ (i : Nat) (t : Tok) m₁ news₁ h₁ tk₁ own I, i < n → J i m₁ news₁ → (∀ p ∈ news₁, p.1 ∉ [I]) → (∀ p ∈ own, p.1 ∈ [I]) → (∃ o, (I, o) ∈ own) → Fr h₀ env.locals h₁ m₁ → News h₀ env.locals h₁ (own ++ news₁) →
      wpAny (model prog w) A (assign (.Name x px) env (.int (i : Int) t)) (fun _ s₃ => wpAny (model prog w) A (execs body env) (TEnd h₀ env.locals [I] own (J (i + 1)) { s with heap := h₁, toks := tk₁ } Q) E s₃) E { s with heap := h₁, toks := tk₁ })
    (fin : ∀ h' tk m' news', Fr h₀ env.locals h' m' → News h₀ env.locals h' news' → J n m' news' → Q .next { s with heap := h', toks := tk }) :
    wpAny (model prog w) A (pyIter (.ref r)) (fun it s₂ => TurnsAt prog w A h₀ env (.Name x px) body Q E it s₂) E s := by
  refine wpAny_pyIter_range hr hsmall ?_
  have hsz : Builtin.Range.rangeSize 0 (n : Int) 1 = (n : Int) := by rw [rangeSize_one]; split <;> lia
  refine ⟨s.heap.objs.size, [s.heap.objs.size], [s.heap.objs.size], n, _, _, _, m₀, news, J, rfl, KTurns.ofWalks (Walks.range hh s.heap.objs.size 0 1 n) (fun i v s Q E st q => letGo_name q), ?_, ?_, ?_,
    ?_, F.push _, (fun p hp => ⟨Heap.get?_push_of_some _ (N p hp).1, (N p hp).2⟩), h0, ?_, ?_⟩
  · intro hm
    exact absurd F.ns.lt ((List.mem_singleton.mp hm) ▸ Nat.lt_irrefl _)
  · intro b hb
    rw [List.mem_singleton.mp hb]
    exact next_is_new F
  · intro p hp hI
    exact absurd (Heap.lt_size (N p hp).1) ((List.mem_singleton.mp hI) ▸ Nat.lt_irrefl _)
  · show IsRangeIter _ _ _ _ _
    rw [hsz]; simpa using Heap.get?_push_size _ rfl
  · rintro i v m₁ news₁ h₁ tk₁ own hin ⟨t, rfl⟩ hJ hoff hown _ hall st F₁ N₁
    have e1 : (0 : Int) + (i : Int) * 1 = (i : Int) := by lia
    rw [e1]
    exact turn i t m₁ news₁ h₁ tk₁ own _ hin hJ hoff hown ⟨_, hall _ (List.mem_singleton.mpr rfl) (next_is_new F) _ st⟩ F₁ N₁
  · intro h' tk m' news' F' N' _ hJ
    exact fin h' tk m' news' F' N' hJ

theorem list_turns {ax : Addr} {its : List Value} {nn : Nat} {m₀ : Str → Option Value} {news : Led} (J : Nat → (Str → Option Value) → Led → Prop)
    (hh : A.handled = none) (F : Fr h₀ env.locals s.heap m₀) (N : News h₀ env.locals s.heap news) (hm : (ax, W.listOf its.toArray nn) ∈ news) (h0 : J 0 m₀ news)
    (turn : ∀ (i : Nat) v m₁ news₁ h₁ tk₁ own I, its[i]? = some v → J i m₁ news₁ → (∀ p ∈ news, p.1 < I) → (∀ p ∈ news₁, p.1 ∉ [I]) → (∀ p ∈ own, p.1 ∈ [I, ax]) → (∃ o, (I, o) ∈ own) → Fr h₀ env.locals h₁ m₁ → News h₀ env.locals h₁ (own ++ news₁) →
      wpAny (model prog w) A (assign target env v) (fun _ s₃ => wpAny (model prog w) A (execs body env) (TEnd h₀ env.locals [I] own (J (i + 1)) { s with heap := h₁, toks := tk₁ } Q) E s₃) E { s with heap := h₁, toks := tk₁ })
    (fin : ∀ h' tk m' news', Fr h₀ env.locals h' m' → News h₀ env.locals h' news' → J its.length m' news' → Q .next { s with heap := h', toks := tk }) :
    wpAny (model prog w) A (pyIter (.ref ax)) (fun it s₂ => TurnsAt prog w A h₀ env target body Q E it s₂) E s := by
  have hax := N _ hm
  have hl : s.heap.IsList ax its.toArray := isList_of N hm
  have hlt : ax < s.heap.objs.size := Heap.lt_size hax.1
  refine wpAny_pyIter_list hl ?_
  refine ⟨s.heap.objs.size, [s.heap.objs.size, ax], [s.heap.objs.size], its.toArray.size, _, _, _, m₀, news, J, rfl, KTurns.ofWalks (Walks.list hh s.heap.objs.size ax (Nat.ne_of_lt hlt) its.toArray) (fun i v s Q E st q => letGo_listiter st.1 q), ?_, ?_, ?_,
    ⟨⟨_, Heap.get?_push_size _ rfl, rfl, rfl⟩, hl.at fun o e => Heap.get?_push_of_some _ e⟩, F.push _, (fun p hp => ⟨Heap.get?_push_of_some _ (N p hp).1, (N p hp).2⟩), h0, ?_, ?_⟩
  · intro hI
    rcases List.mem_cons.mp hI with e | hI
    · exact absurd F.ns.lt (e ▸ Nat.lt_irrefl _)
    · exact hax.2.1 (List.mem_singleton.mp hI).symm
  · intro b hb
    rw [List.mem_singleton.mp hb]
    exact next_is_new F
  · intro p hp hI
    exact absurd (Heap.lt_size (N p hp).1) ((List.mem_singleton.mp hI) ▸ Nat.lt_irrefl _)
  · rintro i v m₁ news₁ h₁ tk₁ own hin hP hJ hoff hown _ hall st F₁ N₁
    obtain ⟨oI, hoI, _⟩ := st.1
    exact turn i v m₁ news₁ h₁ tk₁ own _ (by simpa using hP) hJ (fun p hp => Heap.lt_size (N p hp).1) hoff hown ⟨_, hall _ (List.mem_cons_self ..) (next_is_new F) _ hoI⟩ F₁ N₁
  · intro h' tk m' news' F' N' _ hJ
    exact fin h' tk m' news' F' N' (by simpa using hJ)

theorem enum_turns {elts : List Expr} {k : Nat} {pos : Pos} {l : Addr} {its : List Value} {nn : Nat} {m₀ : Str → Option Value} {news : Led} (J : Nat → (Str → Option Value) → Led → Prop)
    (hh : A.handled = none) (F : Fr h₀ env.locals s.heap m₀) (N : News h₀ env.locals s.heap news) (hm : (l, W.listOf its.toArray nn) ∈ news) (h0 : J 0 m₀ news)
    (turn : ∀ (i : Nat) T t v m₁ news₁ h₁ tk₁ own I I', its[i]? = some v → IsTup h₁ T #[.int (i : Int) t, v] → J i m₁ news₁ → (∀ p ∈ news, p.1 < I) → (∀ p ∈ news, p.1 < I') → (∀ p ∈ news₁, p.1 ∉ [I, I']) → (∀ p ∈ own, p.1 ∈ [I, I', l]) → (∃ o, (I, o) ∈ own) → (∃ o, (I', o) ∈ own) → Fr h₀ env.locals h₁ m₁ → News h₀ env.locals h₁ (own ++ news₁) →
      wpAny (model prog w) A (assign (.Tuple elts k pos) env (.ref T)) (fun _ s₃ => wpAny (model prog w) A (execs body env) (TEnd h₀ env.locals [I, I'] own (J (i + 1)) { s with heap := h₁, toks := tk₁ } Q) E s₃) E { s with heap := h₁, toks := tk₁ })
    (fin : ∀ h' tk m' news', Fr h₀ env.locals h' m' → News h₀ env.locals h' news' → J its.length m' news' → Q .next { s with heap := h', toks := tk }) :
    wpAny (model prog w) A (call (.type "enumerate") [.ref l]) (fun xv s₁ => wpAny (model prog w) A (pyIter xv) (fun it s₂ => TurnsAt prog w A h₀ env (.Tuple elts k pos) body Q E it s₂) E s₁) E s := by
  have hax := N _ hm
  have hl : s.heap.IsList l its.toArray := isList_of N hm
  have hlt : l < s.heap.objs.size := Heap.lt_size hax.1
  have hLs : env.locals < s.heap.objs.size := F.ns.lt
  refine call_enumerate_list hl fun h' hE hI hsz hk => ?_
  refine wpAny_pyIter_enum hE ?_
  refine ⟨s.heap.objs.size + 1, [s.heap.objs.size + 1, s.heap.objs.size, l], [s.heap.objs.size + 1, s.heap.objs.size], its.toArray.size, _, _, _, m₀, news, J, rfl,
    KTurns.ofWalksU (WalksT.enumerate hh (s.heap.objs.size + 1) s.heap.objs.size l (Nat.succ_ne_self _) (ktu_ne 1 hlt) (Nat.ne_of_lt hlt) its.toArray).toU, ?_, ?_, ?_, ⟨⟨.none, hE⟩, hI, hl.at fun o e => hk l o e⟩, F.keeps hk, N.grown hk, h0, ?_, ?_⟩
  · intro hI'
    have hb' : env.locals = s.heap.objs.size + 1 ∨ env.locals = s.heap.objs.size ∨ env.locals = l := by simpa using hI'
    rcases hb' with e | e | e
    · exact ktu_ne 1 hLs e
    · exact Nat.ne_of_lt hLs e
    · exact hax.2.1 e.symm
  · intro b hb
    have hb' : b = s.heap.objs.size + 1 ∨ b = s.heap.objs.size := by simpa using hb
    rcases hb' with rfl | rfl
    · exact ktu_new F (Nat.le_succ _)
    · exact ktu_new F (Nat.le_refl _)
  · intro p hp hI'
    have hb' : p.1 = s.heap.objs.size + 1 ∨ p.1 = s.heap.objs.size := by simpa using hI'
    have hlp := Heap.lt_size (N p hp).1
    rcases hb' with e | e
    · exact ktu_ne 1 hlp e
    · exact Nat.ne_of_lt hlp e
  · rintro i v m₁ news₁ h₁ tk₁ own hin ⟨T, vals, rfl, ⟨t, x, hx, rfl⟩, hT⟩ hJ hoff hown _ hall st F₁ N₁
    obtain ⟨⟨old, he⟩, ⟨oI, hoI, _⟩, _⟩ := st
    exact turn i T t x m₁ news₁ h₁ tk₁ own _ _ (by simpa using hx) hT hJ (fun p hp => Nat.lt_succ_of_lt (Heap.lt_size (N p hp).1)) (fun p hp => Heap.lt_size (N p hp).1) hoff hown
      ⟨_, hall _ (List.mem_cons_self ..) (ktu_new F (Nat.le_succ _)) _ he⟩ ⟨_, hall _ (List.mem_cons_of_mem _ (List.mem_cons_self ..)) (ktu_new F (Nat.le_refl _)) _ hoI⟩ F₁ N₁
  · intro h' tk m' news' F' N' _ hJ
    exact fin h' tk m' news' F' N' (by simpa using hJ)
end
/-- a frame's map whose stored names alone may differ -/
def OffStored (st : List Str) (m₀ m : Str → Option Value) : Prop := ∀ y, st.contains y = false → m y = m₀ y
theorem OffStored.form {st : List Str} {m₀ m : Str → Option Value} (h : OffStored st m₀ m) : ∃ u : Str → Option Value, m = fun y => if st.contains y then u y else m₀ y :=
  ⟨m, funext fun y => by
    cases e : st.contains y with
    | true => simp
    | false => simp [h y e]⟩
theorem OffStored.refl (st : List Str) (m : Str → Option Value) : OffStored st m m := fun _ _ => rfl
theorem OffStored.base {st : List Str} {m₀ u : Str → Option Value} : OffStored st m₀ (fun y => if st.contains y then u y else m₀ y) := fun y hy => by
  show (if st.contains y = true then u y else m₀ y) = m₀ y
  rw [if_neg (by rw [hy]; exact Bool.false_ne_true)]
theorem OffStored.put {st : List Str} {m₀ m : Str → Option Value} {x : Str} {v : Option Value} (hx : st.contains x = true) (h : OffStored st m₀ m) : OffStored st m₀ (fun y => if y = x then v else m y) := fun y hy => by
  show (if y = x then v else m y) = m₀ y
  rw [if_neg (fun e => by rw [e, hx] at hy; cases hy)]
  exact h y hy
/-- an if whose ways meet: one int name is set -/
def JoinP (h₀ : Heap) (L : Addr) (m : Str → Option Value) (x : Str) (P : Int) (news : Led) (s : Shared) (f : Flow) (s' : Shared) : Prop :=
  f = .next ∧ ∃ h tk t m', s' = { s with heap := h, toks := tk } ∧ Fr h₀ L h m' ∧ News h₀ L h news ∧ (∀ y, y ≠ x → m' y = m y) ∧ m' x = some (.int P t)
theorem JoinP.of {h₀ : Heap} {L : Addr} {m m' : Str → Option Value} {x : Str} {P : Int} {news : Led} {s : Shared} {h : Heap} {tk : Nat} (F : Fr h₀ L h m') (N : News h₀ L h news) (hm : ∀ y, y ≠ x → m' y = m y)
    (hx : ∃ t, m' x = some (.int P t)) : JoinP h₀ L m x P news s .next { s with heap := h, toks := tk } := let ⟨t, e⟩ := hx; ⟨rfl, h, tk, t, m', rfl, F, N, hm, e⟩
/-- a goal at which the walk halts -/
structure Halt (P : Prop) : Prop where
  go : P
/-- what an int name will hold behind an if (a note in the context) -/
structure Mark (x : Str) (P : Int) : Prop where
theorem some_int {a b : Int} {t : Tok} (h : a = b) : ∃ t', some (Value.int a t) = some (Value.int b t') := ⟨t, by rw [h]⟩
theorem got_int {o : Option Value} {a P : Int} {t : Tok} (e : o = some (.int a t)) (h : a = P) : ∃ t', o = some (.int P t') := ⟨t, by rw [e, h]⟩
section
variable {M : Model} {A : Around} {E : Value → Shared → Prop} {s : Shared} {env : Env} {h₀ : Heap} {L : Addr} {m : Str → Option Value} {news : Led}
theorem if_join {c : Expr} {b1 b2 rest : List Stmt} {pos : Pos} {Q : Flow → Shared → Prop} {x : Str} {P : Int} (_mk : Mark x P) (_F : Fr h₀ L s.heap m) (_N : News h₀ L s.heap news)
    (split : wpAny M A (exec (.If c b1 b2 pos) env) (JoinP h₀ L m x P news s) E s)
    (next : Halt (∀ h tk t, Fr h₀ L h (fun y => if y = x then some (.int P t) else m y) → News h₀ L h news → wpAny M A (execs rest env) Q E { s with heap := h, toks := tk })) :
    wpAny M A (execs (.If c b1 b2 pos :: rest) env) Q E s := by
  refine wpAny_execs_cons (wpAny_mono split (fun f s' hp => ?_) fun _ _ e => e)
  obtain ⟨rfl, h, tk, t, m', rfl, F', N', hm, hx⟩ := hp
  have e : m' = fun y => if y = x then some (.int P t) else m y := funext fun y => by
    by_cases hy : y = x
    · rw [if_pos hy, hy, hx]
    · rw [if_neg hy, hm y hy]
  exact next.go h tk t (e ▸ F') N'
end
end

section
open PyProof.Rows.LCg PyProof.Rows.LCt
/-! list comprehensions of any length, whose elements leave the ledger as it is -/
def CEnd {α : Type} (h₀ : Heap) (L : Addr) (m : Str → Option Value) (led : Led) (s : Shared) (f : α → Prop) (y : α) (s' : Shared) : Prop :=
  ∃ h' tk', s' = { s with heap := h', toks := tk' } ∧ Fr h₀ L h' m ∧ News h₀ L h' led ∧ f y
theorem CEnd.of {α : Type} {h₀ : Heap} {L : Addr} {m : Str → Option Value} {led : Led} {s : Shared} {f : α → Prop} {y : α} {h' : Heap} {tk' : Nat} (F : Fr h₀ L h' m) (N : News h₀ L h' led) (hf : f y) :
    CEnd h₀ L m led s f y { s with heap := h', toks := tk' } := ⟨h', tk', rfl, F, N, hf⟩
theorem intsAre_snoc {vs : List Value} {ns : List Int} (h : IntsAre vs ns) (n : Int) (t : Tok) : IntsAre (vs ++ [.int n t]) (ns ++ [n]) := h.append (.cons n t .nil)
section
variable {prog : Program} {w : World} {A : Around} {s : Shared} {h₀ : Heap} {L : Addr} {m : Str → Option Value} {env : Env} {ct elt : Expr} {x : Str} {scope : Scope} {cl : List (Str × Addr)} {S : Led → Prop} {P : Nat → Value → Prop} {Fin : List Value → Led → Prop} {news : Led}
theorem comp_pure {n : Nat} (f : Nat → Value → Prop) (hS : S news)
    (turn : ∀ i v ys I oI C oC D m₂ h tk (E' : Value → Shared → Prop), i < n → P i v → NsObj oC m₂ → m₂ x = some v → Fr h₀ L h m → News h₀ L h ((I, oI) :: (C, oC) :: (D, lst ys) :: news) →
      wpAny (model prog w) A (eval elt (compEnvC scope cl C env)) (CEnd h₀ L m ((I, oI) :: (C, oC) :: (D, lst ys) :: news) { s with heap := h, toks := tk } (f i)) E' { s with heap := h, toks := tk })
    (fin : ∀ ys, ys.length = n → (∀ i y, ys[i]? = some y → f i y) → Fin ys news) :
    CompRest prog w A h₀ L m env elt x scope cl s S P Fin n 0 [] news := by
  have all : ∀ k i ys, i + k = n → ys.length = i → (∀ j y, ys[j]? = some y → f j y) → CompRest prog w A h₀ L m env elt x scope cl s S P Fin k i ys news := by
    intro k
    induction k with
    | zero =>
      intro i ys hi hl hy
      exact CompRest.zero (fin ys (by (first | lia | omega)) hy)
    | succ k ih =>
      intro i ys hi hl hy
      refine CompRest.succ fun v I oI C oC D m₂ h tk E' hP hC hx F N off ne => ?_
      refine wpAny_mono (turn i v ys I oI C oC D m₂ h tk E' (by (first | lia | omega)) hP hC hx F N) (fun y s' hp => ?_) fun _ _ e => e
      obtain ⟨h', tk', rfl, F', N', hf⟩ := hp
      refine CompEnd.intro F' N' news (fun p hp => hp) off hS (ih (i + 1) (ys ++ [y]) (by (first | lia | omega)) (by simp [hl]) fun j z hz => ?_)
      by_cases hj : j < i
      · exact hy j z (by rw [List.getElem?_append_left (by (first | lia | omega))] at hz; exact hz)
      · by_cases hj2 : j = i
        · subst hj2
          rw [← hl] at hz; simp at hz
          subst hz; rw [← hl]; exact hl ▸ hf
        · rw [List.getElem?_eq_none (by simp; (first | lia | omega))] at hz; cases hz
  exact all n 0 [] (by (first | lia | omega)) rfl (fun j y hj => by simp at hj)

theorem comp_test {n : Nat} (p : Nat → Bool) (g : Nat → Int) (hS : S news)
    (test : ∀ i v ys I oI C oC D m₂ h tk (E' : Value → Shared → Prop), i < n → P i v → NsObj oC m₂ → m₂ x = some v → Fr h₀ L h m → News h₀ L h ((I, oI) :: (C, oC) :: (D, lst ys) :: news) →
      wpAny (model prog w) A (isTrue ct (compEnvC scope cl C env) (eval ct (compEnvC scope cl C env))) (CEnd h₀ L m ((I, oI) :: (C, oC) :: (D, lst ys) :: news) { s with heap := h, toks := tk } (fun ok => ok = p i)) E' { s with heap := h, toks := tk })
    (turn : ∀ i v ys I oI C oC D m₂ h tk (E' : Value → Shared → Prop), i < n → P i v → NsObj oC m₂ → m₂ x = some v → Fr h₀ L h m → News h₀ L h ((I, oI) :: (C, oC) :: (D, lst ys) :: news) →
      wpAny (model prog w) A (eval elt (compEnvC scope cl C env)) (CEnd h₀ L m ((I, oI) :: (C, oC) :: (D, lst ys) :: news) { s with heap := h, toks := tk } (fun y => ∃ t, y = Value.int (g i) t)) E' { s with heap := h, toks := tk })
    (fin : ∀ ys, IntsAre ys (((List.range n).filter p).map g) → Fin ys news) :
    CompRestT prog w A h₀ L m env ct elt x scope cl s S P Fin n 0 [] news := by
  have all : ∀ k i ys, i + k = n → IntsAre ys (((List.range i).filter p).map g) → CompRestT prog w A h₀ L m env ct elt x scope cl s S P Fin k i ys news := by
    intro k
    induction k with
    | zero =>
      intro i ys hi hy
      have e : i = n := by (first | lia | omega)
      subst e
      exact CompRestT.zero (fin ys hy)
    | succ k ih =>
      intro i ys hi hy
      refine CompRestT.succ fun v I oI C oC D m₂ h tk E' hP hC hx F N off ne => ?_
      refine wpAny_mono (test i v ys I oI C oC D m₂ h tk E' (by (first | lia | omega)) hP hC hx F N) (fun ok s' hp => ?_) fun _ _ e => e
      obtain ⟨h', tk', rfl, F', N', rfl⟩ := hp
      have hr : List.range (i + 1) = List.range i ++ [i] := List.range_succ
      cases hpi : p i with
      | true =>
        rw [if_pos rfl]
        refine wpAny_mono (turn i v ys I oI C oC D m₂ h' tk' E' (by (first | lia | omega)) hP hC hx F' N') (fun y s' hp => ?_) fun _ _ e => e
        obtain ⟨h2, tk2, rfl, F2, N2, t, rfl⟩ := hp
        refine CompEnd.intro F2 N2 news (fun p hp => hp) off hS (ih (i + 1) _ (by (first | lia | omega)) ?_)
        rw [hr, List.filter_append, List.map_append]
        simpa [hpi] using intsAre_snoc hy (g i) t
      | false =>
        rw [if_neg Bool.false_ne_true]
        refine CompEnd.intro F' N' news (fun p hp => hp) off hS (ih (i + 1) _ (by (first | lia | omega)) ?_)
        rw [hr, List.filter_append, List.map_append]
        simpa [hpi] using hy
  exact all n 0 [] (by (first | lia | omega)) .nil
end
/-- what the pure elements are, as ints or texts -/
theorem ints_of {n : Nat} {g : Nat → Int} {ys : List Value} (hl : ys.length = n) (h : ∀ i y, ys[i]? = some y → ∃ t, y = Value.int (g i) t) : IntsAre ys ((List.range n).map g) := by
  have all : ∀ (ys : List Value) (o : Nat), (∀ i y, ys[i]? = some y → ∃ t, y = Value.int (g (o + i)) t) → IntsAre ys ((List.range' o ys.length).map g) := by
    intro ys
    induction ys with
    | nil => intro o _; exact .nil
    | cons y r ih =>
      intro o h
      obtain ⟨t, rfl⟩ := h 0 y rfl
      rw [List.length_cons, List.range'_succ, List.map_cons]
      exact .cons _ t (ih (o + 1) fun i z hz => by
        have := h (i + 1) z (by simpa using hz)
        rwa [show o + (i + 1) = o + 1 + i by (first | lia | omega)] at this)
  have := all ys 0 (by simpa using h)
  rw [hl] at this
  rwa [List.range_eq_range']
theorem strs_of {n : Nat} {g : Nat → Str} {ys : List Value} (hl : ys.length = n) (h : ∀ i y, ys[i]? = some y → ∃ t, y = Value.str (g i) t) : StrsAre ys ((List.range n).map g) := by
  have all : ∀ (ys : List Value) (o : Nat), (∀ i y, ys[i]? = some y → ∃ t, y = Value.str (g (o + i)) t) → StrsAre ys ((List.range' o ys.length).map g) := by
    intro ys
    induction ys with
    | nil => intro o _; exact .nil
    | cons y r ih =>
      intro o h
      obtain ⟨t, rfl⟩ := h 0 y rfl
      rw [List.length_cons, List.range'_succ, List.map_cons]
      exact .cons _ t (ih (o + 1) fun i z hz => by
        have := h (i + 1) z (by simpa using hz)
        rwa [show o + (i + 1) = o + 1 + i by (first | lia | omega)] at this)
  have := all ys 0 (by simpa using h)
  rw [hl] at this
  rwa [List.range_eq_range']
section
variable {prog : Program} {w : World} {A : Around} {E : Value → Shared → Prop} {s : Shared} {h₀ : Heap} {L D : Addr} {m : Str → Option Value} {news : Led}
theorem sum_ones : ∀ {gs : List Str}, (∀ g ∈ gs, g.length = 1) → (gs.map (·.length)).sum = gs.length
  | [], _ => rfl
  | g :: r, h => by
    rw [List.map_cons, List.sum_cons, h g (List.mem_cons_self ..), sum_ones fun a ha => h a (List.mem_cons_of_mem _ ha), List.length_cons]; (first | lia | omega)
theorem join_led {ys : List Value} {n : Nat} {gs : List Str} {x : Str} {t : Tok} {Q : Value → Shared → Prop} (N : News h₀ L s.heap news) (hm : (D, W.listOf ys.toArray n) ∈ news) (hi : StrsAre ys gs) (h1 : ∀ g ∈ gs, g.length = 1) (hz : gs.length ≤ 100)
    (hx : x.length ≤ 16) (h : ∀ t' k, Q (.str (Txt.join x gs) t') { s with toks := k }) : wpAny (model prog w) A (call (.builtin "str.join") [.str x t, .ref D]) Q E s :=
  join_listW (isList_of N hm) (by simpa using hi) hx (by rw [sum_ones h1]; (first | lia | omega)) h
theorem truthy_cons {y : Value} {ys : List Value} {n : Nat} {Q : Bool → Shared → Prop} (N : News h₀ L s.heap news) (hm : (D, W.listOf (y :: ys).toArray n) ∈ news) (hf : ys.length < 2 ^ 60) (h : Q true { s with toks := s.toks + 1 + 1 }) :
    wpAny (model prog w) A (truthy (.ref D)) Q E s := wpAny_truthy_list (isList_of N hm) (by simp; (first | lia | omega)) (by simpa using h)
theorem truthy_nil {n : Nat} {Q : Bool → Shared → Prop} (N : News h₀ L s.heap news) (hm : (D, W.listOf #[] n) ∈ news) (h : Q false { s with toks := s.toks + 1 + 1 }) :
    wpAny (model prog w) A (truthy (.ref D)) Q E s := wpAny_truthy_list (isList_of (its := #[]) N hm) (by simp) (by simpa using h)
theorem ld_free {M : Model} {env : Env} {c : Addr} {o : Obj} {x : Str} {pos : Pos} {v : Value} {Q : Value → Shared → Prop} (hx : env.kindOf x = some .free) (N : News h₀ L s.heap news) (hc : env.cells.lookup x = some c) (hm : (c, o) ∈ news) (hd : o.data = .cell (some v)) (h : Q v s)
    (hk : env.scope.kind = .function := by rfl) (hb : (x == ("__debug__" : Str)) = false := by decide) (hn : (x == ("__classdict__" : Str)) = false := by decide) :
    wpAny M A (eval (.Name x pos) env) Q E s := wpAny_Name (wpAny_loadName_free hk hx hc ⟨o, N.get hm, hd⟩ h hn) hb
theorem src_led {ax : Addr} {its : Array Value} {k : Nat} (hm : (ax, W.listOf its k) ∈ news) : SrcAt h₀ ax its news := Or.inr ⟨_, hm, rfl, _, rfl⟩
end
end
theorem fill_lines : KK = KK → PySem.Challenge.rw_tl0013_01 = PySem.Challenge.rw_tl0013_01 := by
  k_fill
  intro _; rfl
local macro_rules | `(tactic| walk_at $s:str) => `(tactic| k_extra $s)
local macro_rules | `(tactic| k_mem) => `(tactic| k_extra "my kmem")
local macro_rules | `(tactic| k_all) => `(tactic| k_extra "my all")
local macro_rules | `(tactic| k_updF) => `(tactic| k_extra "my updF")

section
theorem lines_MSmall : True := by
  k_with_none
  k_with "my mem" => (first | assumption | k_mem)
  k_with "my kmem" => (first | assumption | (refine List.mem_append_right _ ?_; k_mem) | (refine List.mem_cons_of_mem _ ?_; k_mem))
  k_with "my kmem" => (exact List.mem_cons_self ..)
  k_with "subscriptTail Name Name ref int" => (walk_at "my item")
  k_with "subscriptTail Name Constant ref int" => (walk_at "my item")
  k_with "my item" => ((with_reducible show wpAny _ _ (subscriptTail _ _ (Value.ref _) (Value.int _ _)) _ _ _); k_dflt (refine item_led (by k_asm) (by walk_at "my mem") (by first | decide | with_reducible assumption | omega) (by first | decide | with_reducible assumption | omega) (by first | with_reducible assumption | exact rfl) ?_ (by with_unfolding_all rfl); k_whole))
  k_with "call builtin:len" => (k_here; (with_reducible show wpAny _ _ (call (Value.builtin "len") [Value.ref _]) _ _ _); k_dflt (refine len_led (by k_asm) (by walk_at "my mem") (by first | assumption | exact rfl) (by first | with_reducible assumption | omega) ?_; k_whole); intro t' k')
  k_with "my for" => (k_here; (rename Fr _ _ _ _ => lF'); (with_unfolding_all refine For_turns lF' ?_; k_whole))
  k_with "my frame" => (repeat' (first | exact OffStored.base | exact OffStored.refl _ _ | refine OffStored.put (by decide) ?_))
  k_with "my append" => (k_here; k_dflt (show wpAny _ _ (call (Value.builtin "list.append") [Value.ref _, _]) _ _ _); k_dflt (refine append_led (by k_asm) (by k_asm) (by walk_at "my mem") ?_ (by first | assumption | size_fits)); intro h' F' N')
  k_with "my div" => (k_here; (with_reducible show wpAny _ _ (binaryOp _ (Value.int _ _) (Value.float _ _)) _ _ _); k_dflt (refine div_if (by exact rfl) (by first | assumption | omega) (by decide +kernel) ?_; k_whole))
  k_with "my join" => (refine JoinP.of (by k_asm) (by k_asm) (by (intro y hy; first | rfl | exact if_neg hy)) ?_)
  k_with "storeName" => (k_here; (try dsimp only); k_dflt (refine storeX_L (by k_asm) (by k_asm) ?_ (by rfl) (by rfl); k_whole; intro h' F' N'; (try k_sweep)))
  k_with "my enterC" => (refine code_defC (by k_asm) (by k_asm) (by k_asm) (by k_asm) (by k_asm) (by exact rfl) (by exact rfl) (by assumption) (by k_is) (by k_is) (by ktr_room) (by exact BindsTo.of_eq rfl) (by exact rfl) (by decide +kernel) ?_ (by exact rfl) (by exact rfl) (by exact rfl); k_whole; intro g' L' h' tk' cells' FG' F' N' Y' B' X' T' l1; k_cells Y'; (try simp only [List.cons_append, List.nil_append] at N'); (try dsimp only); (try k_lift B'); (try k_fold))
  k_with "setItem ref int" => (k_here; k_dflt (refine set_led (by k_asm) (by k_asm) (by walk_at "my mem") (by first | assumption | omega) (by first | assumption | omega) (by first | assumption | omega) ?_; k_whole); intro h' F' N')
  k_with "my tup" => ((with_reducible show wpAny _ _ (subscriptTail _ _ (Value.ref _) (Value.int _ _)) _ _ _); k_dflt (refine tup_led (by k_asm) (by walk_at "my mem") (by first | decide | with_reducible assumption | omega) (by first | decide | with_reducible assumption | omega) (by first | with_reducible assumption | exact rfl) ?_ (by with_unfolding_all rfl); k_whole))
  k_with "my comp" => (k_here; k_dflt (refine PyProof.Rows.LCg.CompSrc.ledger (by rfl) (by k_asm) (by k_asm) (by walk_at "my mem") (by first | assumption | size_fits | exact Nat.le_of_ble_eq_true rfl) ?_); intro g'; refine Halt.go ?_)
  k_with "my str.join" => (k_here; k_dflt (show wpAny _ _ (call (Value.builtin "str.join") [Value.str _ _, Value.ref _]) _ _ _); k_dflt (refine join_led (by k_asm) (by walk_at "my mem") (by assumption) (by assumption) (by assumption) (by decide +kernel) ?_); intro t' k')
  k_with "my free" => (k_here; (with_reducible show wpAny _ _ (eval (Expr.Name _ _) (compEnvC _ _ _ _)) _ _ _); k_dflt (refine ld_free (by rfl) (by k_asm) (by rfl) (by assumption) (by assumption) ?_))
  trivial

theorem cross_spec (w : World) (news : Led) (la lb : Addr) (a0 a1 a2 b0 b1 b2 : Int) (t0 t1 t2 u0 u1 u2 : Tok) (na nb : Nat)
   (ha : (la, W.listOf #[.int a0 t0, .int a1 t1, .int a2 t2] na) ∈ news)
   (hb : (lb, W.listOf #[.int b0 u0, .int b1 u1, .int b2 u2] nb) ∈ news)
   (ba0 : 0 ≤ a0 ∧ a0 ≤ 128) (ba1 : 0 ≤ a1 ∧ a1 ≤ 128) (ba2 : 0 ≤ a2 ∧ a2 ≤ 128) :
   CallSpec w 110 [.ref la, .ref lb] news 1 (fun tl r => tl = [] ∧ ∃ t, r = .int ((a0 - a2) * (b1 - b2) - (a1 - a2) * (b0 - b2)) t) := by
  w_on
  intro p loose mean mg mb dp un gd cn cs a ccd cl outer A₀ base h₀ L m s Q E B F X N T hk hd hu hret
  refine wpAny_call ?_
  k_dflt cell_enter
  k_steps
  all_goals (refine ret0 hret (by k_asm) (by k_asm) ⟨rfl, _, rfl⟩)

theorem iseof_spec (w : World) (news : Led) (x : Int) (t : Tok) :
   CallSpec w 77 [.int x t] news 1 (fun tl r => tl = [] ∧ r = .bool (x == 0)) := by
  w_on
  intro p loose mean mg mb dp un gd cn cs a ccd cl outer A₀ base h₀ L m s Q E B F X N T hk hd hu hret
  refine wpAny_call ?_
  k_dflt cell_enter
  k_steps
  all_goals (refine ret0 hret (by k_asm) (by k_asm) ⟨rfl, rfl⟩)

theorem int_val {a b : Int} {t : Tok} (h : a = b) : ∃ t', Value.int a t = Value.int b t' := ⟨t, by rw [h]⟩
theorem str_val {a b : Str} {t : Tok} (h : a = b) : ∃ t', Value.str a t = Value.str b t' := ⟨t, by rw [h]⟩
/-- _substitution_cost as a function of the two texts -/
def costOf (x y : Str) : Int := if (x == y) = true then 0 else if (Txt.lower x == Txt.lower y) = true then 1 else 2
theorem cost_spec (w : World) (news : Led) (x y : Str) (t u : Tok) (hxl : x.length ≤ 1) (hyl : y.length ≤ 1) :
   CallSpec w 84 [.str x t, .str y u] news 1 (fun tl r => tl = [] ∧ ∃ t, r = .int (costOf x y) t) := by
  w_on
  intro p loose mean mg mb dp un gd cn cs a ccd cl outer A₀ base h₀ L m s Q E B F X N T hk hd hu hret
  refine wpAny_call ?_
  k_dflt cell_enter
  k_steps
  all_goals (refine ret0 hret (by k_asm) (by k_asm) ⟨rfl, int_val ?_⟩)
  all_goals (simp only [costOf]; (repeat' split) <;> first | rfl | contradiction | (exfalso; simp_all; done))

/-- _law_side -/
def sideOf (here : Int) (there : Option Int) : Str := match there with
  | none => "."
  | some v => if Int.fmod (v - here) 8 = 0 then "." else if Int.fmod (v - here) 16 < 8 then "a" else "A"
theorem side_none (w : World) (news : Led) (x : Int) (t : Tok) :
   CallSpec w 127 [.int x t, .none] news 1 (fun tl r => tl = [] ∧ ∃ t, r = .str (sideOf x none) t) := by
  w_on
  intro p loose mean mg mb dp un gd cn cs a ccd cl outer A₀ base h₀ L m s Q E B F X N T hk hd hu hret
  refine wpAny_call ?_
  k_dflt cell_enter
  k_steps
  all_goals (refine ret0 hret (by k_asm) (by k_asm) ⟨rfl, str_val ?_⟩)
  all_goals rfl
theorem side_some (w : World) (news : Led) (x y : Int) (t u : Tok) :
   CallSpec w 127 [.int x t, .int y u] news 1 (fun tl r => tl = [] ∧ ∃ t, r = .str (sideOf x (some y)) t) := by
  w_on
  intro p loose mean mg mb dp un gd cn cs a ccd cl outer A₀ base h₀ L m s Q E B F X N T hk hd hu hret
  refine wpAny_call ?_
  k_dflt cell_enter
  k_steps
  all_goals (refine ret0 hret (by k_asm) (by k_asm) ⟨rfl, str_val ?_⟩)
  all_goals (simp only [sideOf]; (repeat' split) <;> first | rfl | (exfalso; omega))
end

section
theorem lines_MHsv : True := by
  k_with_none
  k_with "my mem" => (first | assumption | k_mem)
  k_with "my kmem" => (first | assumption | (refine List.mem_append_right _ ?_; k_mem) | (refine List.mem_cons_of_mem _ ?_; k_mem))
  k_with "my kmem" => (exact List.mem_cons_self ..)
  k_with "subscriptTail Name Name ref int" => (walk_at "my item")
  k_with "subscriptTail Name Constant ref int" => (walk_at "my item")
  k_with "my item" => ((with_reducible show wpAny _ _ (subscriptTail _ _ (Value.ref _) (Value.int _ _)) _ _ _); k_dflt (refine item_led (by k_asm) (by walk_at "my mem") (by first | decide | with_reducible assumption | omega) (by first | decide | with_reducible assumption | omega) (by first | with_reducible assumption | exact rfl) ?_ (by with_unfolding_all rfl); k_whole))
  k_with "call builtin:len" => (k_here; (with_reducible show wpAny _ _ (call (Value.builtin "len") [Value.ref _]) _ _ _); k_dflt (refine len_led (by k_asm) (by walk_at "my mem") (by first | assumption | exact rfl) (by first | with_reducible assumption | omega) ?_; k_whole); intro t' k')
  k_with "my for" => (k_here; (rename Fr _ _ _ _ => lF'); (with_unfolding_all refine For_turns lF' ?_; k_whole))
  k_with "my frame" => (repeat' (first | exact OffStored.base | exact OffStored.refl _ _ | refine OffStored.put (by decide) ?_))
  k_with "my append" => (k_here; k_dflt (show wpAny _ _ (call (Value.builtin "list.append") [Value.ref _, _]) _ _ _); k_dflt (refine append_led (by k_asm) (by k_asm) (by walk_at "my mem") ?_ (by first | assumption | size_fits)); intro h' F' N')
  k_with "my div" => (k_here; (with_reducible show wpAny _ _ (binaryOp _ (Value.int _ _) (Value.float _ _)) _ _ _); k_dflt (refine div_if (by exact rfl) (by first | assumption | omega) (by decide +kernel) ?_; k_whole))
  k_with "my join" => (refine JoinP.of (by k_asm) (by k_asm) (by (intro y hy; first | rfl | exact if_neg hy)) ?_)
  k_with "storeName" => (k_here; (try dsimp only); k_dflt (refine storeX_L (by k_asm) (by k_asm) ?_ (by rfl) (by rfl); k_whole; intro h' F' N'; (try k_sweep)))
  k_with "my enterC" => (refine code_defC (by k_asm) (by k_asm) (by k_asm) (by k_asm) (by k_asm) (by exact rfl) (by exact rfl) (by assumption) (by k_is) (by k_is) (by ktr_room) (by exact BindsTo.of_eq rfl) (by exact rfl) (by decide +kernel) ?_ (by exact rfl) (by exact rfl) (by exact rfl); k_whole; intro g' L' h' tk' cells' FG' F' N' Y' B' X' T' l1; k_cells Y'; (try simp only [List.cons_append, List.nil_append] at N'); (try dsimp only); (try k_lift B'); (try k_fold))
  k_with "setItem ref int" => (k_here; k_dflt (refine set_led (by k_asm) (by k_asm) (by walk_at "my mem") (by first | assumption | omega) (by first | assumption | omega) (by first | assumption | omega) ?_; k_whole); intro h' F' N')
  k_with "my tup" => ((with_reducible show wpAny _ _ (subscriptTail _ _ (Value.ref _) (Value.int _ _)) _ _ _); k_dflt (refine tup_led (by k_asm) (by walk_at "my mem") (by first | decide | with_reducible assumption | omega) (by first | decide | with_reducible assumption | omega) (by first | with_reducible assumption | exact rfl) ?_ (by with_unfolding_all rfl); k_whole))
  k_with "my comp" => (k_here; k_dflt (refine PyProof.Rows.LCg.CompSrc.ledger (by rfl) (by k_asm) (by k_asm) (by walk_at "my mem") (by first | assumption | size_fits | exact Nat.le_of_ble_eq_true rfl) ?_); intro g'; refine Halt.go ?_)
  k_with "my str.join" => (k_here; k_dflt (show wpAny _ _ (call (Value.builtin "str.join") [Value.str _ _, Value.ref _]) _ _ _); k_dflt (refine join_led (by k_asm) (by walk_at "my mem") (by assumption) (by assumption) (by assumption) (by decide +kernel) ?_); intro t' k')
  k_with "my free" => (k_here; (with_reducible show wpAny _ _ (eval (Expr.Name _ _) (compEnvC _ _ _ _)) _ _ _); k_dflt (refine ld_free (by rfl) (by k_asm) (by rfl) (by assumption) (by assumption) ?_))
  trivial

/-! hsv_to_rgb on the bits -/
def hI (h : UInt64) : Int := Flt.toInt Float64.truncOf (Float64.mul h 4618441417868443648)
def hF (h : UInt64) : UInt64 := Float64.sub (Float64.mul h 4618441417868443648) (Float64.ofInt (hI h))
def hP (s v : UInt64) : UInt64 := Float64.mul v (Float64.sub 4607182418800017408 s)
def hQ (h s v : UInt64) : UInt64 := Float64.mul v (Float64.sub 4607182418800017408 (Float64.mul s (hF h)))
def hT (h s v : UInt64) : UInt64 := Float64.mul v (Float64.sub 4607182418800017408 (Float64.mul s (Float64.sub 4607182418800017408 (hF h))))
def hsvF (h s v : UInt64) : UInt64 × UInt64 × UInt64 :=
  if (Float64.cmp s 0 == some Ordering.eq) = true then (v, v, v) else
  if Int.fmod (hI h) 6 = 0 then (v, hT h s v, hP s v) else
  if Int.fmod (hI h) 6 = 1 then (hQ h s v, v, hP s v) else
  if Int.fmod (hI h) 6 = 2 then (hP s v, v, hT h s v) else
  if Int.fmod (hI h) 6 = 3 then (hP s v, hQ h s v, v) else
  if Int.fmod (hI h) 6 = 4 then (hT h s v, hP s v, v) else (v, hP s v, hQ h s v)
abbrev tup3 (c : UInt64 × UInt64 × UInt64) (t0 t1 t2 : Tok) : Obj := { cls := .type "tuple", data := .seq #[.float c.1 t0, .float c.2.1 t1, .float c.2.2 t2] }
section
variable {h s v : UInt64}
theorem hsvF_z (e : (Float64.cmp s 0 == some Ordering.eq) = true) : (v, v, v) = hsvF h s v := by unfold hsvF; rw [if_pos e]
theorem hsvF_n (e : (Float64.cmp s 0 == some Ordering.eq) = false) : hsvF h s v =
  if Int.fmod (hI h) 6 = 0 then (v, hT h s v, hP s v) else
  if Int.fmod (hI h) 6 = 1 then (hQ h s v, v, hP s v) else
  if Int.fmod (hI h) 6 = 2 then (hP s v, v, hT h s v) else
  if Int.fmod (hI h) 6 = 3 then (hP s v, hQ h s v, v) else
  if Int.fmod (hI h) 6 = 4 then (hT h s v, hP s v, v) else (v, hP s v, hQ h s v) := by unfold hsvF; rw [if_neg (by rw [e]; exact Bool.false_ne_true)]
theorem hsvF_0 (e : (Float64.cmp s 0 == some Ordering.eq) = false) (f : Int.fmod (hI h) 6 = 0) : (v, hT h s v, hP s v) = hsvF h s v := by rw [hsvF_n e, if_pos f]
theorem hsvF_1 (e : (Float64.cmp s 0 == some Ordering.eq) = false) (f : Int.fmod (hI h) 6 = 1) : (hQ h s v, v, hP s v) = hsvF h s v := by rw [hsvF_n e, f]; rfl
theorem hsvF_2 (e : (Float64.cmp s 0 == some Ordering.eq) = false) (f : Int.fmod (hI h) 6 = 2) : (hP s v, v, hT h s v) = hsvF h s v := by rw [hsvF_n e, f]; rfl
theorem hsvF_3 (e : (Float64.cmp s 0 == some Ordering.eq) = false) (f : Int.fmod (hI h) 6 = 3) : (hP s v, hQ h s v, v) = hsvF h s v := by rw [hsvF_n e, f]; rfl
theorem hsvF_4 (e : (Float64.cmp s 0 == some Ordering.eq) = false) (f : Int.fmod (hI h) 6 = 4) : (hT h s v, hP s v, v) = hsvF h s v := by rw [hsvF_n e, f]; rfl
theorem hsvF_5 (e : (Float64.cmp s 0 == some Ordering.eq) = false) (f : Int.fmod (hI h) 6 = 5) : (v, hP s v, hQ h s v) = hsvF h s v := by rw [hsvF_n e, f]; rfl
end
theorem tup3_of {a : Addr} {b0 b1 b2 : UInt64} {c : UInt64 × UInt64 × UInt64} {t0 t1 t2 : Tok} (e : (b0, b1, b2) = c) :
    [(a, ({ cls := .type "tuple", data := .seq #[.float b0 t0, .float b1 t1, .float b2 t2] } : Obj))] = [(a, tup3 c t0 t1 t2)] := by rw [← e]
theorem fmod6 (i : Int) : 0 ≤ Int.fmod i 6 ∧ Int.fmod i 6 < 6 := by
  rw [Int.fmod_eq_emod_of_nonneg _ (by decide)]; lia

theorem hsv_spec (w : World) (news : Led) (h s v : UInt64) (t u x : Tok)
   (hfin : Float64.isFinite (Float64.mul h 4618441417868443648) = true) (hsm : (hI h).natAbs < 1000) :
   CallSpec w 70 [.float h t, .float s u, .float v x] news 1 (fun tl r => ∃ (a : Addr) (t0 t1 t2 : Tok), r = .ref a ∧ tl = [(a, tup3 (hsvF h s v) t0 t1 t2)]) := by
  w_on
  intro p loose mean mg mb dp un gd cn cs a ccd cl outer A₀ base h₀ L m s Q E B F X N T hk hd hu hret
  refine wpAny_call ?_
  k_dflt cell_enter
  k_steps
  all_goals (have h6 := fmod6 (hI h); unfold hI at h6 hsm)
  all_goals first | (exfalso; lia) | skip
  all_goals (refine' ret1 hret ?cF ?cN ?cl ?cO; (case cF => k_asm); (case cN => k_asm); (case cl => assumption); (case cO => (refine ⟨_, _, _, _, rfl, tup3_of ?_⟩; first
    | exact hsvF_z (by assumption)
    | exact hsvF_0 (by assumption) (by assumption)
    | exact hsvF_1 (by assumption) (by assumption)
    | exact hsvF_2 (by assumption) (by assumption)
    | exact hsvF_3 (by assumption) (by assumption)
    | exact hsvF_4 (by assumption) (by assumption)
    | exact hsvF_5 (by assumption) (by assumption))))
end

section
def max2 (a b : UInt64) : UInt64 := if (Float64.cmp a b == some .lt) = true then b else a
def min2 (a b : UInt64) : UInt64 := if (Float64.cmp b a == some .lt) = true then b else a
section
open PySem.Flt
variable {prog : Program} {w : World} {A : Around} {E : Value → Shared → Prop} {s : Shared} {Q : Value → Shared → Prop} {a b c : UInt64} {t u x : Tok} {h₀ : Heap} {L : Addr} {m : Str → Option Value} {news : Led}
theorem max3_raw (hh : A.handled = none)
    (h : ∀ h' tk v, (∀ d o, s.heap.get? d = some o → h'.get? d = some o) → Q (.float (max2 (max2 a b) c) v) { s with heap := h', toks := tk }) :
    wpAny (model prog w) A (call (.builtin "max") [.float a t, .float b u, .float c x]) Q E s := by
  have hT : (s.heap.push { cls := .type "tuple", data := .seq #[.float a t, .float b u, .float c x] }).IsTuple s.heap.objs.size #[.float a t, .float b u, .float c x] := ⟨_, Heap.get?_push_size _ rfl, rfl, 0, rfl⟩
  refine call_max_three (wpAny_pyIter_tuple hT ?_)
  have hsz : (s.heap.push { cls := .type "tuple", data := .seq #[.float a t, .float b u, .float c x] }).objs.size = s.heap.objs.size + 1 := Heap.size_push ..
  refine ⟨_, [_, s.heap.objs.size], [_], _, _, _, _, rfl, Walks.tuple (A := A.in1) hh _ s.heap.objs.size (by rw [hsz]; exact Nat.ne_of_lt (Nat.lt_succ_self _)) #[.float a t, .float b u, .float c x],
    ⟨⟨_, Heap.get?_push_size _ rfl, rfl, rfl⟩, hT.push _⟩, fun d hd => ?_, by simp, cmpOf_gt #[.float a t, .float b u, .float c x] (by simp [NumV.float]), fun v h' tk hP hk => ?_⟩
  · show d < ((s.heap.push _).push _).objs.size
    rw [Heap.size_push, hsz]
    rcases List.mem_cons.mp hd with rfl | hd
    · rw [hsz]; exact Nat.lt_succ_self _
    · rcases List.mem_cons.mp hd with rfl | hd
      · exact Nat.lt_succ_of_lt (Nat.lt_succ_self _)
      · cases hd
  · have hold : ∀ d o, s.heap.get? d = some o → h'.get? d = some o := fun d o e => by
      refine hk d o (fun hm => ?_) (Heap.get?_push_of_some _ (Heap.get?_push_of_some _ e))
      rcases List.mem_cons.mp hm with e1 | hm
      · have := Heap.lt_size e; rw [e1, hsz] at this; exact Nat.lt_irrefl _ (Nat.lt_of_succ_lt this)
      · cases hm
    have hv : ∃ v', v = .float (max2 (max2 a b) c) v' := by
      by_cases h1 : Float64.cmp a b = some .lt
      · by_cases h2 : Float64.cmp b c = some .lt <;> simp [argBest, ltV, h1, h2, max2] at hP ⊢ <;> exact ⟨_, hP.symm⟩
      · by_cases h2 : Float64.cmp a c = some .lt <;> simp [argBest, ltV, h1, h2, max2] at hP ⊢ <;> exact ⟨_, hP.symm⟩
    obtain ⟨v', rfl⟩ := hv
    exact h h' tk v' hold
theorem min3_raw (hh : A.handled = none)
    (h : ∀ h' tk v, (∀ d o, s.heap.get? d = some o → h'.get? d = some o) → Q (.float (min2 (min2 a b) c) v) { s with heap := h', toks := tk }) :
    wpAny (model prog w) A (call (.builtin "min") [.float a t, .float b u, .float c x]) Q E s := by
  have hT : (s.heap.push { cls := .type "tuple", data := .seq #[.float a t, .float b u, .float c x] }).IsTuple s.heap.objs.size #[.float a t, .float b u, .float c x] := ⟨_, Heap.get?_push_size _ rfl, rfl, 0, rfl⟩
  refine call_min_three (wpAny_pyIter_tuple hT ?_)
  have hsz : (s.heap.push { cls := .type "tuple", data := .seq #[.float a t, .float b u, .float c x] }).objs.size = s.heap.objs.size + 1 := Heap.size_push ..
  refine ⟨_, [_, s.heap.objs.size], [_], _, _, _, _, rfl, Walks.tuple (A := A.in1) hh _ s.heap.objs.size (by rw [hsz]; exact Nat.ne_of_lt (Nat.lt_succ_self _)) #[.float a t, .float b u, .float c x],
    ⟨⟨_, Heap.get?_push_size _ rfl, rfl, rfl⟩, hT.push _⟩, fun d hd => ?_, by simp, cmpOf_lt #[.float a t, .float b u, .float c x] (by simp [NumV.float]), fun v h' tk hP hk => ?_⟩
  · show d < ((s.heap.push _).push _).objs.size
    rw [Heap.size_push, hsz]
    rcases List.mem_cons.mp hd with rfl | hd
    · rw [hsz]; exact Nat.lt_succ_self _
    · rcases List.mem_cons.mp hd with rfl | hd
      · exact Nat.lt_succ_of_lt (Nat.lt_succ_self _)
      · cases hd
  · have hold : ∀ d o, s.heap.get? d = some o → h'.get? d = some o := fun d o e => by
      refine hk d o (fun hm => ?_) (Heap.get?_push_of_some _ (Heap.get?_push_of_some _ e))
      rcases List.mem_cons.mp hm with e1 | hm
      · have := Heap.lt_size e; rw [e1, hsz] at this; exact Nat.lt_irrefl _ (Nat.lt_of_succ_lt this)
      · cases hm
    have hv : ∃ v', v = .float (min2 (min2 a b) c) v' := by
      by_cases h1 : Float64.cmp b a = some .lt
      · by_cases h2 : Float64.cmp c b = some .lt <;> simp [argBest, ltV, h1, h2, min2] at hP ⊢ <;> exact ⟨_, hP.symm⟩
      · by_cases h2 : Float64.cmp c a = some .lt <;> simp [argBest, ltV, h1, h2, min2] at hP ⊢ <;> exact ⟨_, hP.symm⟩
    obtain ⟨v', rfl⟩ := hv
    exact h h' tk v' hold
theorem max3_K (hh : A.handled = none) (F : Fr h₀ L s.heap m) (N : News h₀ L s.heap news)
    (h : ∀ h' tk v, Fr h₀ L h' m → News h₀ L h' news → Q (.float (max2 (max2 a b) c) v) { s with heap := h', toks := tk }) :
    wpAny (model prog w) A (call (.builtin "max") [.float a t, .float b u, .float c x]) Q E s :=
  max3_raw hh fun h' tk v kp => h h' tk v (F.grownK kp) (N.grown kp)
theorem min3_K (hh : A.handled = none) (F : Fr h₀ L s.heap m) (N : News h₀ L s.heap news)
    (h : ∀ h' tk v, Fr h₀ L h' m → News h₀ L h' news → Q (.float (min2 (min2 a b) c) v) { s with heap := h', toks := tk }) :
    wpAny (model prog w) A (call (.builtin "min") [.float a t, .float b u, .float c x]) Q E s :=
  min3_raw hh fun h' tk v kp => h h' tk v (F.grownK kp) (N.grown kp)
end
theorem lines_MRgb : True := by
  k_with_none
  k_with "my mem" => (first | assumption | k_mem)
  k_with "my kmem" => (first | assumption | (refine List.mem_append_right _ ?_; k_mem) | (refine List.mem_cons_of_mem _ ?_; k_mem))
  k_with "my kmem" => (exact List.mem_cons_self ..)
  k_with "subscriptTail Name Name ref int" => (walk_at "my item")
  k_with "subscriptTail Name Constant ref int" => (walk_at "my item")
  k_with "my item" => ((with_reducible show wpAny _ _ (subscriptTail _ _ (Value.ref _) (Value.int _ _)) _ _ _); k_dflt (refine item_led (by k_asm) (by walk_at "my mem") (by first | decide | with_reducible assumption | omega) (by first | decide | with_reducible assumption | omega) (by first | with_reducible assumption | exact rfl) ?_ (by with_unfolding_all rfl); k_whole))
  k_with "call builtin:len" => (k_here; (with_reducible show wpAny _ _ (call (Value.builtin "len") [Value.ref _]) _ _ _); k_dflt (refine len_led (by k_asm) (by walk_at "my mem") (by first | assumption | exact rfl) (by first | with_reducible assumption | omega) ?_; k_whole); intro t' k')
  k_with "my for" => (k_here; (rename Fr _ _ _ _ => lF'); (with_unfolding_all refine For_turns lF' ?_; k_whole))
  k_with "my frame" => (repeat' (first | exact OffStored.base | exact OffStored.refl _ _ | refine OffStored.put (by decide) ?_))
  k_with "my append" => (k_here; k_dflt (show wpAny _ _ (call (Value.builtin "list.append") [Value.ref _, _]) _ _ _); k_dflt (refine append_led (by k_asm) (by k_asm) (by walk_at "my mem") ?_ (by first | assumption | size_fits)); intro h' F' N')
  k_with "my div" => (k_here; (with_reducible show wpAny _ _ (binaryOp _ (Value.int _ _) (Value.float _ _)) _ _ _); k_dflt (refine div_if (by exact rfl) (by first | assumption | omega) (by decide +kernel) ?_; k_whole))
  k_with "my join" => (refine JoinP.of (by k_asm) (by k_asm) (by (intro y hy; first | rfl | exact if_neg hy)) ?_)
  k_with "storeName" => (k_here; (try dsimp only); k_dflt (refine storeX_L (by k_asm) (by k_asm) ?_ (by rfl) (by rfl); k_whole; intro h' F' N'; (try k_sweep)))
  k_with "my enterC" => (refine code_defC (by k_asm) (by k_asm) (by k_asm) (by k_asm) (by k_asm) (by exact rfl) (by exact rfl) (by assumption) (by k_is) (by k_is) (by ktr_room) (by exact BindsTo.of_eq rfl) (by exact rfl) (by decide +kernel) ?_ (by exact rfl) (by exact rfl) (by exact rfl); k_whole; intro g' L' h' tk' cells' FG' F' N' Y' B' X' T' l1; k_cells Y'; (try simp only [List.cons_append, List.nil_append] at N'); (try dsimp only); (try k_lift B'); (try k_fold))
  k_with "setItem ref int" => (k_here; k_dflt (refine set_led (by k_asm) (by k_asm) (by walk_at "my mem") (by first | assumption | omega) (by first | assumption | omega) (by first | assumption | omega) ?_; k_whole); intro h' F' N')
  k_with "my tup" => ((with_reducible show wpAny _ _ (subscriptTail _ _ (Value.ref _) (Value.int _ _)) _ _ _); k_dflt (refine tup_led (by k_asm) (by walk_at "my mem") (by first | decide | with_reducible assumption | omega) (by first | decide | with_reducible assumption | omega) (by first | with_reducible assumption | exact rfl) ?_ (by with_unfolding_all rfl); k_whole))
  k_with "my comp" => (k_here; k_dflt (refine PyProof.Rows.LCg.CompSrc.ledger (by rfl) (by k_asm) (by k_asm) (by walk_at "my mem") (by first | assumption | size_fits | exact Nat.le_of_ble_eq_true rfl) ?_); intro g'; refine Halt.go ?_)
  k_with "my str.join" => (k_here; k_dflt (show wpAny _ _ (call (Value.builtin "str.join") [Value.str _ _, Value.ref _]) _ _ _); k_dflt (refine join_led (by k_asm) (by walk_at "my mem") (by assumption) (by assumption) (by assumption) (by decide +kernel) ?_); intro t' k')
  k_with "my free" => (k_here; (with_reducible show wpAny _ _ (eval (Expr.Name _ _) (compEnvC _ _ _ _)) _ _ _); k_dflt (refine ld_free (by rfl) (by k_asm) (by rfl) (by assumption) (by assumption) ?_))
  trivial

theorem more_MRgb_1 : True := by
  k_with "call builtin:max" => (k_here; (with_reducible show wpAny _ _ (call _ [Value.float _ _, Value.float _ _, Value.float _ _]) _ _ _); k_dflt (refine max3_K (by rfl) (by k_asm) (by k_asm) ?_; k_whole); intro h' tk' v' F' N'; (try k_sweep))
  k_with "call builtin:min" => (k_here; (with_reducible show wpAny _ _ (call _ [Value.float _ _, Value.float _ _, Value.float _ _]) _ _ _); k_dflt (refine min3_K (by rfl) (by k_asm) (by k_asm) ?_; k_whole); intro h' tk' v' F' N'; (try k_sweep))
  trivial
/-! rgb_to_hsv on the bits -/
def gM (r g b : UInt64) : UInt64 := max2 (max2 r g) b
def gL (r g b : UInt64) : UInt64 := min2 (min2 r g) b
def gR (r g b : UInt64) : UInt64 := Float64.sub (gM r g b) (gL r g b)
def gC (r g b x : UInt64) : UInt64 := Float64.div (Float64.sub (gM r g b) x) (gR r g b)
def gRaw (r g b : UInt64) : UInt64 :=
  if (Float64.cmp r (gM r g b) == some Ordering.eq) = true then Float64.sub (gC r g b b) (gC r g b g)
  else if (Float64.cmp g (gM r g b) == some Ordering.eq) = true then Float64.sub (Float64.add 4611686018427387904 (gC r g b r)) (gC r g b b)
  else Float64.sub (Float64.add 4616189618054758400 (gC r g b g)) (gC r g b r)
def gHue (r g b : UInt64) : UInt64 := (Float64.divmod (Float64.div (gRaw r g b) 4618441417868443648) 4607182418800017408).snd
def rgbF (r g b : UInt64) : UInt64 × UInt64 × UInt64 :=
  if (Float64.cmp (gL r g b) (gM r g b) == some Ordering.eq) = true then (0, 0, gM r g b)
  else (gHue r g b, Float64.div (gR r g b) (gM r g b), gM r g b)
section
variable {r g b : UInt64}
theorem rgbF_z (e : (Float64.cmp (gL r g b) (gM r g b) == some Ordering.eq) = true) : (0, 0, gM r g b) = rgbF r g b := by unfold rgbF; rw [if_pos e]
theorem rgbF_n (e : (Float64.cmp (gL r g b) (gM r g b) == some Ordering.eq) = false) (k : UInt64) (hk : k = gRaw r g b) :
    ((Float64.divmod (Float64.div k 4618441417868443648) 4607182418800017408).snd, Float64.div (gR r g b) (gM r g b), gM r g b) = rgbF r g b := by
  unfold rgbF; rw [if_neg (by rw [e]; exact Bool.false_ne_true), hk]; rfl
theorem gRaw_r (e : (Float64.cmp r (gM r g b) == some Ordering.eq) = true) : Float64.sub (gC r g b b) (gC r g b g) = gRaw r g b := by unfold gRaw; rw [if_pos e]
theorem gRaw_g (e : (Float64.cmp r (gM r g b) == some Ordering.eq) = false) (f : (Float64.cmp g (gM r g b) == some Ordering.eq) = true) :
    Float64.sub (Float64.add 4611686018427387904 (gC r g b r)) (gC r g b b) = gRaw r g b := by unfold gRaw; rw [if_neg (by rw [e]; exact Bool.false_ne_true), if_pos f]
theorem gRaw_b (e : (Float64.cmp r (gM r g b) == some Ordering.eq) = false) (f : (Float64.cmp g (gM r g b) == some Ordering.eq) = false) :
    Float64.sub (Float64.add 4616189618054758400 (gC r g b g)) (gC r g b r) = gRaw r g b := by unfold gRaw; rw [if_neg (by rw [e]; exact Bool.false_ne_true), if_neg (by rw [f]; exact Bool.false_ne_true)]
end
theorem rgb_spec (w : World) (news : Led) (r g b : UInt64) (t u x : Tok)
   (hz : (Float64.cmp (gL r g b) (gM r g b) == some Ordering.eq) = false → ¬ Float64.isZero (gM r g b) = true ∧ ¬ Float64.isZero (gR r g b) = true) :
   CallSpec w 63 [.float r t, .float g u, .float b x] news 1 (fun tl v => ∃ (a : Addr) (t0 t1 t2 : Tok), v = .ref a ∧ tl = [(a, tup3 (rgbF r g b) t0 t1 t2)]) := by
  w_on
  intro p loose mean mg mb dp un gd cn cs a ccd cl outer A₀ base h₀ L m s Q E B F X N T hk hd hu hret
  refine wpAny_call ?_
  k_dflt cell_enter
  k_steps
  all_goals first | (exfalso; exact (hz (by assumption)).1 (by assumption)) | (exfalso; exact (hz (by assumption)).2 (by assumption)) | skip
  all_goals (refine' ret1 hret ?cF ?cN ?cl ?cO; (case cF => k_asm); (case cN => k_asm); (case cl => assumption); (case cO => (refine ⟨_, _, _, _, rfl, tup3_of ?_⟩; first
    | exact rgbF_z (by assumption)
    | exact rgbF_n (by assumption) _ (gRaw_r (by assumption))
    | exact rgbF_n (by assumption) _ (gRaw_g (by assumption) (by assumption))
    | exact rgbF_n (by assumption) _ (gRaw_b (by assumption) (by assumption)))))
end

section
/-! the floats that the law meets: all are exact -/
def fN (N : Nat) : UInt64 := Float64.div (Float64.ofInt (N : Int)) 4625196817309499392
def f4 (q : Nat) : UInt64 := Float64.div (Float64.ofInt (q : Int)) 4616189618054758400
def f8 (g : Nat) : UInt64 := Float64.ofFrac false g 8
def fq (j : Nat) : UInt64 := Float64.ofFrac false j 128
theorem flt_A : ∀ N, N < 112 → Float64.isFinite (Float64.mul (fN N) 4618441417868443648) = true ∧ hI (fN N) = ((3 * N / 8 : Nat) : Int) ∧ hF (fN N) = f8 (3 * N % 8) := by decide +kernel
theorem flt_B : ∀ g, g < 8 → ∀ q, q < 5 → ∀ u, u < 4 →
    Float64.mul (f4 (u + 1)) (Float64.sub 4607182418800017408 (Float64.mul (f4 q) (f8 g))) = fq (32 * (u + 1) - (u + 1) * q * g) ∧
    Float64.mul (f4 (u + 1)) (Float64.sub 4607182418800017408 (Float64.mul (f4 q) (Float64.sub 4607182418800017408 (f8 g)))) = fq (32 * (u + 1) - (u + 1) * q * (8 - g)) := by decide +kernel
theorem flt_C : ∀ q, q < 5 → ∀ u, u < 4 → hP (f4 q) (f4 (u + 1)) = fq (32 * (u + 1) - 8 * (u + 1) * q) ∧ f4 (u + 1) = fq (32 * (u + 1)) ∧ (Float64.cmp (f4 q) 0 == some Ordering.eq) = (q == 0) := by decide +kernel
theorem flt_D : ∀ j, j < 129 → Float64.isFinite (Float64.mul (fq j) (Float64.ofInt 128)) = true ∧ Flt.toInt Float64.truncOf (Float64.mul (fq j) (Float64.ofInt 128)) = (j : Int) := by decide +kernel
end

section
/-! _law_paints -/
def iAt (ns : List Int) (k : Nat) : Int := ns.getD k 0
def placeOf (ns : List Int) (k : Nat) : Int := if k = 1 then Int.fmod (iAt ns 0) 16 + 1 + Int.fmod (iAt ns 1) 7 else Int.fmod (iAt ns k) 16
def quartOf (ns : List Int) (k : Nat) : Int := if k < 2 then 1 + Int.fmod (Int.fdiv (iAt ns k) 16) 4 else Int.fmod (Int.fdiv (iAt ns k) 16) 5
def valueOf (ns : List Int) (k : Nat) : Int := 1 + Int.fmod (Int.fdiv (iAt ns k) 80) 4
def paintOf (ns : List Int) (k : Nat) : UInt64 × UInt64 × UInt64 :=
  hsvF (Float64.div (Float64.ofInt (placeOf ns k + 16 * (k : Int))) 4625196817309499392) (Float64.div (Float64.ofInt (quartOf ns k)) 4616189618054758400) (Float64.div (Float64.ofInt (valueOf ns k)) 4616189618054758400)
theorem lines_MPaints : True := by
  k_with_none
  k_with "my mem" => (first | assumption | k_mem)
  k_with "my kmem" => (first | assumption | (refine List.mem_append_right _ ?_; k_mem) | (refine List.mem_cons_of_mem _ ?_; k_mem))
  k_with "my kmem" => (exact List.mem_cons_self ..)
  k_with "subscriptTail Name Name ref int" => (walk_at "my item")
  k_with "subscriptTail Name Constant ref int" => (walk_at "my item")
  k_with "my item" => ((with_reducible show wpAny _ _ (subscriptTail _ _ (Value.ref _) (Value.int _ _)) _ _ _); k_dflt (refine item_led (by k_asm) (by walk_at "my mem") (by first | decide | with_reducible assumption | omega) (by first | decide | with_reducible assumption | omega) (by first | with_reducible assumption | exact rfl) ?_ (by with_unfolding_all rfl); k_whole))
  k_with "call builtin:len" => (k_here; (with_reducible show wpAny _ _ (call (Value.builtin "len") [Value.ref _]) _ _ _); k_dflt (refine len_led (by k_asm) (by walk_at "my mem") (by first | assumption | exact rfl) (by first | with_reducible assumption | omega) ?_; k_whole); intro t' k')
  k_with "my for" => (k_here; (rename Fr _ _ _ _ => lF'); (with_unfolding_all refine For_turns lF' ?_; k_whole))
  k_with "my frame" => (repeat' (first | exact OffStored.base | exact OffStored.refl _ _ | refine OffStored.put (by decide) ?_))
  k_with "my append" => (k_here; k_dflt (show wpAny _ _ (call (Value.builtin "list.append") [Value.ref _, _]) _ _ _); k_dflt (refine append_led (by k_asm) (by k_asm) (by walk_at "my mem") ?_ (by first | assumption | size_fits)); intro h' F' N')
  k_with "my div" => (k_here; (with_reducible show wpAny _ _ (binaryOp _ (Value.int _ _) (Value.float _ _)) _ _ _); k_dflt (refine div_if (by exact rfl) (by first | assumption | omega) (by decide +kernel) ?_; k_whole))
  k_with "my join" => (refine JoinP.of (by k_asm) (by k_asm) (by (intro y hy; first | rfl | exact if_neg hy)) ?_)
  k_with "storeName" => (k_here; (try dsimp only); k_dflt (refine storeX_L (by k_asm) (by k_asm) ?_ (by rfl) (by rfl); k_whole; intro h' F' N'; (try k_sweep)))
  k_with "my enterC" => (refine code_defC (by k_asm) (by k_asm) (by k_asm) (by k_asm) (by k_asm) (by exact rfl) (by exact rfl) (by assumption) (by k_is) (by k_is) (by ktr_room) (by exact BindsTo.of_eq rfl) (by exact rfl) (by decide +kernel) ?_ (by exact rfl) (by exact rfl) (by exact rfl); k_whole; intro g' L' h' tk' cells' FG' F' N' Y' B' X' T' l1; k_cells Y'; (try simp only [List.cons_append, List.nil_append] at N'); (try dsimp only); (try k_lift B'); (try k_fold))
  k_with "setItem ref int" => (k_here; k_dflt (refine set_led (by k_asm) (by k_asm) (by walk_at "my mem") (by first | assumption | omega) (by first | assumption | omega) (by first | assumption | omega) ?_; k_whole); intro h' F' N')
  k_with "my tup" => ((with_reducible show wpAny _ _ (subscriptTail _ _ (Value.ref _) (Value.int _ _)) _ _ _); k_dflt (refine tup_led (by k_asm) (by walk_at "my mem") (by first | decide | with_reducible assumption | omega) (by first | decide | with_reducible assumption | omega) (by first | with_reducible assumption | exact rfl) ?_ (by with_unfolding_all rfl); k_whole))
  k_with "my comp" => (k_here; k_dflt (refine PyProof.Rows.LCg.CompSrc.ledger (by rfl) (by k_asm) (by k_asm) (by walk_at "my mem") (by first | assumption | size_fits | exact Nat.le_of_ble_eq_true rfl) ?_); intro g'; refine Halt.go ?_)
  k_with "my str.join" => (k_here; k_dflt (show wpAny _ _ (call (Value.builtin "str.join") [Value.str _ _, Value.ref _]) _ _ _); k_dflt (refine join_led (by k_asm) (by walk_at "my mem") (by assumption) (by assumption) (by assumption) (by decide +kernel) ?_); intro t' k')
  k_with "my free" => (k_here; (with_reducible show wpAny _ _ (eval (Expr.Name _ _) (compEnvC _ _ _ _)) _ _ _); k_dflt (refine ld_free (by rfl) (by k_asm) (by rfl) (by assumption) (by assumption) ?_))
  trivial

theorem more_MPaints_1 : True := by
  k_with "exec For Name Call cons nil" => (walk_at "my for")
  k_with "binaryOp Div int float" => (walk_at "my div")
  k_with "call builtin:list.append" => (walk_at "my append")
  k_with "call ref" => (k_here; k_dflt (refine call_use (hsv_spec _ _ _ _ _ _ _ _ (by assumption) (by assumption)) (by k_asm) (by k_asm) (by k_asm) (by k_asm) (by k_asm) (by first | exact rfl | assumption) (by ktr_room) (by ktr_units) ?_); rintro r' tl' h' tk' F' N' o' ⟨a', t0', t1', t2', e1', e2'⟩; subst e1'; subst e2')
  k_with "execs cons" => ((with_reducible show wpAny _ _ (execs (Stmt.If (Expr.Compare _ [CmpOp.Eq] _ _) _ _ _ :: _) _) _ _ _); k_dflt (refine if_join (x := "place") (by assumption) (by k_asm) (by k_asm) ?_ ?_))
  k_with "execs cons" => ((with_reducible show wpAny _ _ (execs (Stmt.If (Expr.Compare _ [CmpOp.Lt] _ _) _ _ _ :: _) _) _ _ _); k_dflt (refine if_join (x := "quarters") (by assumption) (by k_asm) (by k_asm) ?_ ?_))
  trivial
theorem fmod_b (a : Int) {n : Int} (h : 0 < n) : 0 ≤ Int.fmod a n ∧ Int.fmod a n < n := by
  rw [Int.fmod_eq_emod_of_nonneg _ (Int.le_of_lt h)]
  exact ⟨Int.emod_nonneg _ (by omega), Int.emod_lt_of_pos _ h⟩
theorem ints_at {its : List Value} {ns : List Int} (hi : IntsAre its ns) {i : Nat} (h : i < ns.length) : ∃ t, its[i]? = some (.int (iAt ns i) t) := by
  obtain ⟨t, e⟩ := hi.get i ns[i] (by simp [h])
  exact ⟨t, by rw [e]; simp [iAt, List.getD, h]⟩
theorem paint_flt {ns : List Int} {i : Nat} (c1 : 0 ≤ placeOf ns i ∧ placeOf ns i < 23) (hi : i < 6) :
    Float64.isFinite (Float64.mul (Float64.div (Float64.ofInt (placeOf ns i + 16 * (i : Int))) 4625196817309499392) 4618441417868443648) = true ∧
    (hI (Float64.div (Float64.ofInt (placeOf ns i + 16 * (i : Int))) 4625196817309499392)).natAbs < 1000 := by
  obtain ⟨N, hN⟩ : ∃ N : Nat, placeOf ns i + 16 * (i : Int) = (N : Int) := ⟨(placeOf ns i + 16 * (i : Int)).toNat, by omega⟩
  have hb : N < 112 := by omega
  obtain ⟨e1, e2, _⟩ := flt_A N hb
  rw [hN]
  refine ⟨e1, ?_⟩
  have e2' : hI (Float64.div (Float64.ofInt (N : Int)) 4625196817309499392) = ((3 * N / 8 : Nat) : Int) := e2
  rw [e2']; omega
def PJ (lp : Addr) (news : Led) (m₀ : Str → Option Value) (ns : List Int) (i : Nat) (m : Str → Option Value) (led : Led) : Prop :=
  OffStored ["k", "place", "quarters", "value"] m₀ m ∧ ∃ (tl : Led) (as : List Addr) (n : Nat), led = tl ++ (lp, W.listOf (as.map Value.ref).toArray n) :: news ∧ as.length = i ∧ (∀ p ∈ tl, lp ≠ p.1) ∧ (∀ q ∈ news, ∀ p ∈ tl, q.1 ≠ p.1) ∧
    ∀ j, j < i → ∃ a t0 t1 t2, as[j]? = some a ∧ (a, tup3 (paintOf ns j) t0 t1 t2) ∈ tl
theorem PJ.start {lp : Addr} {news : Led} {m₀ : Str → Option Value} {ns : List Int} : PJ lp news m₀ ns 0 m₀ ((lp, W.listOf #[] 0) :: news) :=
  ⟨OffStored.refl _ _, [], [], 0, rfl, rfl, (fun _ h => nomatch h), (fun _ _ _ h => nomatch h), fun j h => absurd h (Nat.not_lt_zero _)⟩
theorem PJ.step {lp a I : Addr} {news own tl : Led} {m₀ m' : Str → Option Value} {ns : List Int} {i n : Nat} {as : List Addr} {t0 t1 t2 : Tok}
    (hm : OffStored ["k", "place", "quarters", "value"] m₀ m') (hlen : as.length = i) (hgt : ∀ p ∈ tl, lp ≠ p.1) (hgn : ∀ q ∈ news, ∀ p ∈ tl, q.1 ≠ p.1)
    (hall : ∀ j, j < i → ∃ a t0 t1 t2, as[j]? = some a ∧ (a, tup3 (paintOf ns j) t0 t1 t2) ∈ tl)
    (ho : ∀ q ∈ own ++ (tl ++ (lp, W.listOf (as.map Value.ref).toArray n) :: news), ∀ p ∈ [(a, tup3 (paintOf ns i) t0 t1 t2)], q.1 ≠ p.1)
    (hlt : ∀ p ∈ news, p.1 < lp) (hoff : ∀ p ∈ tl ++ (lp, W.listOf (as.map Value.ref).toArray n) :: news, p.1 ∉ [I]) (hown : ∀ p ∈ own, p.1 ∈ [I]) (hI : ∃ o, (I, o) ∈ own) :
    ∃ news', PJ lp news m₀ ns (i + 1) m' news' ∧ (∀ p ∈ news', p.1 ∉ [I]) ∧
      ∀ p ∈ own ++ news', p ∈ updL lp (W.listOf ((as.map Value.ref).toArray.push (.ref a)) (n + 1)) ([(a, tup3 (paintOf ns i) t0 t1 t2)] ++ (own ++ (tl ++ (lp, W.listOf (as.map Value.ref).toArray n) :: news))) := by
  have hla : lp ≠ a := ho (lp, W.listOf (as.map Value.ref).toArray n) (by simp) _ (List.mem_singleton.mpr rfl)
  obtain ⟨oI, hoI⟩ := hI
  have hIa : I ≠ a := ho (I, oI) (List.mem_append_left _ hoI) _ (List.mem_singleton.mpr rfl)
  have hlI : lp ≠ I := fun e => hoff (lp, W.listOf (as.map Value.ref).toArray n) (by simp) (by simp [e])
  have hlst : W.listOf ((as.map Value.ref).toArray.push (.ref a)) (n + 1) = W.listOf ((as ++ [a]).map Value.ref).toArray (n + 1) := by simp
  refine ⟨((a, tup3 (paintOf ns i) t0 t1 t2) :: tl) ++ (lp, W.listOf ((as ++ [a]).map Value.ref).toArray (n + 1)) :: news, ⟨hm, (a, tup3 (paintOf ns i) t0 t1 t2) :: tl, as ++ [a], n + 1, rfl, by simp [hlen], ?_, ?_, ?_⟩, ?_, ?_⟩
  · intro p hp
    rcases List.mem_cons.mp hp with rfl | hp
    · exact hla
    · exact hgt p hp
  · intro q hq p hp
    rcases List.mem_cons.mp hp with rfl | hp
    · exact ho q (by simp [hq]) _ (List.mem_singleton.mpr rfl)
    · exact hgn q hq p hp
  · intro j hj
    by_cases hji : j < i
    · obtain ⟨a', x0, x1, x2, e1, e2⟩ := hall j hji
      refine ⟨a', x0, x1, x2, ?_, List.mem_cons_of_mem _ e2⟩
      rw [List.getElem?_append_left (by omega)]; exact e1
    · have e : j = i := by omega
      subst e
      exact ⟨a, t0, t1, t2, by rw [← hlen]; simp, List.mem_cons_self ..⟩
  · intro p hp
    rcases List.mem_append.mp hp with hp | hp
    · rcases List.mem_cons.mp hp with rfl | hp
      · simpa using Ne.symm hIa
      · exact hoff p (List.mem_append_left _ hp)
    · rcases List.mem_cons.mp hp with rfl | hp
      · simpa using hlI
      · exact hoff p (List.mem_append_right _ (List.mem_cons_of_mem _ hp))
  · intro p hp
    rw [hlst]
    rcases List.mem_append.mp hp with hp | hp
    · refine updL_mem (List.mem_append_right _ (List.mem_append_left _ hp)) ?_
      have := hown p hp
      simp at this
      rw [this]; exact Ne.symm hlI
    · rcases List.mem_append.mp hp with hp | hp
      · rcases List.mem_cons.mp hp with rfl | hp
        · exact updL_mem (List.mem_append_left _ (List.mem_singleton.mpr rfl)) (Ne.symm hla)
        · exact updL_mem (by simp [hp]) (Ne.symm (hgt p hp))
      · rcases List.mem_cons.mp hp with rfl | hp
        · exact updL_new (o := W.listOf (as.map Value.ref).toArray n) (by simp)
        · exact updL_mem (by simp [hp]) (Nat.ne_of_lt (hlt p hp))
theorem PJ.out {lp : Addr} {news tl : Led} {o : Obj} (hgn : ∀ q ∈ news, ∀ p ∈ tl, q.1 ≠ p.1) (hlt : ∀ p ∈ news, p.1 < lp) : ∀ q ∈ news, ∀ p ∈ tl ++ [(lp, o)], q.1 ≠ p.1 := fun q hq p hp => by
  rcases List.mem_append.mp hp with hp | hp
  · exact hgn q hq p hp
  · rw [List.mem_singleton.mp hp]; exact Nat.ne_of_lt (hlt q hq)
theorem small_z {z : Nat} (h : z = 4 ∨ z = 6) : Builtin.Range.small 0 (z : Int) 1 = true := by rcases h with rfl | rfl <;> decide
theorem paints_spec (w : World) (news : Led) (lc : Addr) (its : List Value) (ns : List Int) (k z : Nat) (hm : (lc, W.listOf its.toArray k) ∈ news) (hi : IntsAre its ns) (hz : its.length = z) (h0 : ∀ x ∈ ns, 0 ≤ x) (hn : z = 4 ∨ z = 6) :
   CallSpec w 98 [.ref lc] news 2 (fun tl r => ∃ (lp : Addr) (as : List Addr) (n : Nat), r = .ref lp ∧ (lp, W.listOf (as.map Value.ref).toArray n) ∈ tl ∧ as.length = z ∧
     ∀ j, j < z → ∃ a t0 t1 t2, as[j]? = some a ∧ (a, tup3 (paintOf ns j) t0 t1 t2) ∈ tl) := by
  w_on
  intro p loose mean mg mb dp un gd cn cs a ccd cl outer A₀ base h₀ L m s Q E B F X N T hk hd hu hret
  refine wpAny_call ?_
  k_dflt cell_enter
  k_steps
  rename IsRange _ _ _ _ _ _ _ _ => hR
  rename Fr _ _ _ _ => F1
  rename News _ _ _ _ => N1
  rename ∀ p ∈ news, p.1 < _ => hlt
  have hi : IntsAre its ns := by assumption
  have hlen : its.length = ns.length := hi.length
  with_unfolding_all refine range_turns (PJ _ news _ ns) rfl hR (small_z hn) F1 N1 PJ.start ?_ ?_
  · rintro i t m₁ news₁ h₁ tk₁ own I hin ⟨hm₁, tl, as, n, rfl, hlen, hgt, hgn, hall⟩ hoff hown hI F2 N2
    obtain ⟨u, rfl⟩ := hm₁.form
    obtain ⟨t0, e0⟩ := ints_at hi (i := 0) (by omega)
    obtain ⟨t1, e1⟩ := ints_at hi (i := 1) (by omega)
    obtain ⟨ti, ei⟩ := ints_at hi (i := i) (by omega)
    have e0' : its[(0 : Int).toNat]? = _ := e0
    have e1' : its[(1 : Int).toNat]? = _ := e1
    have ei' : its[(i : Int).toNat]? = _ := ei
    clear F1 N1 hR
    have b1 := fmod_b (iAt ns i) (n := 16) (by decide)
    have b2 := fmod_b (iAt ns 0) (n := 16) (by decide)
    have b3 := fmod_b (iAt ns 1) (n := 7) (by decide)
    have b4 := fmod_b (Int.fdiv (iAt ns i) 16) (n := 4) (by decide)
    have b5 := fmod_b (Int.fdiv (iAt ns i) 16) (n := 5) (by decide)
    have b6 := fmod_b (Int.fdiv (iAt ns i) 80) (n := 4) (by decide)
    have c1 : 0 ≤ placeOf ns i ∧ placeOf ns i < 23 := by unfold placeOf; split <;> omega
    have c2 : 0 ≤ quartOf ns i ∧ quartOf ns i < 5 := by unfold quartOf; split <;> omega
    have c3 : valueOf ns i = 1 + Int.fmod (Int.fdiv (iAt ns i) 80) 4 := rfl
    have i63 : (i : Int) < 2 ^ 63 := by lia
    have i0 : 0 ≤ (i : Int) := by lia
    obtain ⟨hf, hs⟩ := paint_flt (ns := ns) (i := i) c1 (by lia)
    have k1 : Mark "place" (placeOf ns i) := ⟨⟩
    have k2 : Mark "quarters" (quartOf ns i) := ⟨⟩
    k_steps
    all_goals (try (refine Halt.mk ?_; intro h' tk' t' F' N'; k_steps))
    all_goals (try (refine Halt.mk ?_; intro h' tk' t' F' N'; k_steps))
    all_goals first | (walk_at "my join") | skip
    all_goals first | (refine got_int (by with_unfolding_all rfl) ?_; first | (unfold placeOf; (split <;> lia)) | (unfold quartOf; (split <;> omega))) | skip
    rename News _ _ _ _ => N3
    rename Fr _ _ _ _ => F3
    rename ∀ q ∈ _ ++ _, _ => ho
    exact TEnd.of F3 N3 (PJ.step (by walk_at "my frame") hlen hgt hgn hall ho hlt hoff hown hI)
  · rintro h' tk m' news' F' N' ⟨hm', tl, as, n, rfl, hlen, hgt, hgn, hall⟩
    obtain ⟨u, rfl⟩ := hm'.form
    clear F1 N1 hR
    k_steps
    refine hret _ (tl ++ [(_, _)]) _ _ (by k_asm) (news_sub (by k_asm) (fun p hp => by simpa using hp)) (PJ.out hgn hlt) ⟨_, as, n, rfl, by simp, hlen, fun j hj => ?_⟩
    obtain ⟨a, t0, t1, t2, e1, e2⟩ := hall j hj
    exact ⟨a, t0, t1, t2, e1, List.mem_append_left _ e2⟩
end

section
theorem lines_MWays : True := by
  k_with_none
  k_with "my mem" => (first | assumption | k_mem)
  k_with "my kmem" => (first | assumption | (refine List.mem_append_right _ ?_; k_mem) | (refine List.mem_cons_of_mem _ ?_; k_mem))
  k_with "my kmem" => (exact List.mem_cons_self ..)
  k_with "subscriptTail Name Name ref int" => (walk_at "my item")
  k_with "subscriptTail Name Constant ref int" => (walk_at "my item")
  k_with "my item" => ((with_reducible show wpAny _ _ (subscriptTail _ _ (Value.ref _) (Value.int _ _)) _ _ _); k_dflt (refine item_led (by k_asm) (by walk_at "my mem") (by first | decide | with_reducible assumption | omega) (by first | decide | with_reducible assumption | omega) (by first | with_reducible assumption | exact rfl) ?_ (by with_unfolding_all rfl); k_whole))
  k_with "call builtin:len" => (k_here; (with_reducible show wpAny _ _ (call (Value.builtin "len") [Value.ref _]) _ _ _); k_dflt (refine len_led (by k_asm) (by walk_at "my mem") (by first | assumption | exact rfl) (by first | with_reducible assumption | omega) ?_; k_whole); intro t' k')
  k_with "my for" => (k_here; (rename Fr _ _ _ _ => lF'); (with_unfolding_all refine For_turns lF' ?_; k_whole))
  k_with "my frame" => (repeat' (first | exact OffStored.base | exact OffStored.refl _ _ | refine OffStored.put (by decide) ?_))
  k_with "my append" => (k_here; k_dflt (show wpAny _ _ (call (Value.builtin "list.append") [Value.ref _, _]) _ _ _); k_dflt (refine append_led (by k_asm) (by k_asm) (by walk_at "my mem") ?_ (by first | assumption | size_fits)); intro h' F' N')
  k_with "my div" => (k_here; (with_reducible show wpAny _ _ (binaryOp _ (Value.int _ _) (Value.float _ _)) _ _ _); k_dflt (refine div_if (by exact rfl) (by first | assumption | omega) (by decide +kernel) ?_; k_whole))
  k_with "my join" => (refine JoinP.of (by k_asm) (by k_asm) (by (intro y hy; first | rfl | exact if_neg hy)) ?_)
  k_with "storeName" => (k_here; (try dsimp only); k_dflt (refine storeX_L (by k_asm) (by k_asm) ?_ (by rfl) (by rfl); k_whole; intro h' F' N'; (try k_sweep)))
  k_with "my enterC" => (refine code_defC (by k_asm) (by k_asm) (by k_asm) (by k_asm) (by k_asm) (by exact rfl) (by exact rfl) (by assumption) (by k_is) (by k_is) (by ktr_room) (by exact BindsTo.of_eq rfl) (by exact rfl) (by decide +kernel) ?_ (by exact rfl) (by exact rfl) (by exact rfl); k_whole; intro g' L' h' tk' cells' FG' F' N' Y' B' X' T' l1; k_cells Y'; (try simp only [List.cons_append, List.nil_append] at N'); (try dsimp only); (try k_lift B'); (try k_fold))
  k_with "setItem ref int" => (k_here; k_dflt (refine set_led (by k_asm) (by k_asm) (by walk_at "my mem") (by first | assumption | omega) (by first | assumption | omega) (by first | assumption | omega) ?_; k_whole); intro h' F' N')
  k_with "my tup" => ((with_reducible show wpAny _ _ (subscriptTail _ _ (Value.ref _) (Value.int _ _)) _ _ _); k_dflt (refine tup_led (by k_asm) (by walk_at "my mem") (by first | decide | with_reducible assumption | omega) (by first | decide | with_reducible assumption | omega) (by first | with_reducible assumption | exact rfl) ?_ (by with_unfolding_all rfl); k_whole))
  k_with "my comp" => (k_here; k_dflt (refine PyProof.Rows.LCg.CompSrc.ledger (by rfl) (by k_asm) (by k_asm) (by walk_at "my mem") (by first | assumption | size_fits | exact Nat.le_of_ble_eq_true rfl) ?_); intro g'; refine Halt.go ?_)
  k_with "my str.join" => (k_here; k_dflt (show wpAny _ _ (call (Value.builtin "str.join") [Value.str _ _, Value.ref _]) _ _ _); k_dflt (refine join_led (by k_asm) (by walk_at "my mem") (by assumption) (by assumption) (by assumption) (by decide +kernel) ?_); intro t' k')
  k_with "my free" => (k_here; (with_reducible show wpAny _ _ (eval (Expr.Name _ _) (compEnvC _ _ _ _)) _ _ _); k_dflt (refine ld_free (by rfl) (by k_asm) (by rfl) (by assumption) (by assumption) ?_))
  trivial

def wayOf (ns : List Int) (k : Nat) : Int := Int.fmod (Int.fdiv (iAt ns k) 320) (if k = 2 then 2 else 4)
theorem ways_spec (w : World) (news : Led) (lc : Addr) (its : List Value) (ns : List Int) (k z : Nat) (hm : (lc, W.listOf its.toArray k) ∈ news) (hi : IntsAre its ns) (hz : its.length = z) (hn : z = 4 ∨ z = 6) :
   CallSpec w 103 [.ref lc] news 2 (fun tl r => ∃ (lw : Addr) (ys : List Value), r = .ref lw ∧ tl = [(lw, W.listOf ys.toArray ys.length)] ∧ IntsAre ys ((List.range z).map (wayOf ns))) := by
  w_on
  intro p loose mean mg mb dp un gd cn cs a ccd cl outer A₀ base h₀ L m s Q E B F X N T hk hd hu hret
  refine wpAny_call ?_
  k_dflt walk_at "my enterC"
  k_steps
  refine' ret1N hret ?cF ?cN ?cl ?cO
  case cF => k_asm
  case cN => exact news_sub (by k_asm) (fun p hp => by
    rcases List.mem_cons.mp hp with rfl | hp
    · exact List.mem_cons_self ..
    · exact List.mem_cons_of_mem _ (List.mem_cons_of_mem _ hp))
  case cl =>
    rename _ ∧ LCg.Off1 _ _ => hO
    exact ne_of_off1 hO.2
  case cO =>
    rename IntsAre _ (List.map _ (rangeKs _ _)) => hY
    refine ⟨_, _, rfl, rfl, ?_⟩
    have e : ((z : Int) - 0).toNat = z := by lia
    rw [e] at hY
    have e2 : (rangeKs 0 z).map (fun k' : Int => if k' = 2 then Int.fmod (Int.fdiv (ns.getD k'.toNat 0) 320) 2 else Int.fmod (Int.fdiv (ns.getD k'.toNat 0) 320) 4) = (List.range z).map (wayOf ns) := by
      apply List.ext_getElem
      · simp [rangeKs]
      · intro i h1 h2
        simp [rangeKs, wayOf, iAt]
        split <;> split <;> first | rfl | lia
    rw [← e2]; exact hY
end

section
theorem lines_MCells : True := by
  k_with_none
  k_with "my mem" => (first | assumption | k_mem)
  k_with "my kmem" => (first | assumption | (refine List.mem_append_right _ ?_; k_mem) | (refine List.mem_cons_of_mem _ ?_; k_mem))
  k_with "my kmem" => (exact List.mem_cons_self ..)
  k_with "subscriptTail Name Name ref int" => (walk_at "my item")
  k_with "subscriptTail Name Constant ref int" => (walk_at "my item")
  k_with "my item" => ((with_reducible show wpAny _ _ (subscriptTail _ _ (Value.ref _) (Value.int _ _)) _ _ _); k_dflt (refine item_led (by k_asm) (by walk_at "my mem") (by first | decide | with_reducible assumption | omega) (by first | decide | with_reducible assumption | omega) (by first | with_reducible assumption | exact rfl) ?_ (by with_unfolding_all rfl); k_whole))
  k_with "call builtin:len" => (k_here; (with_reducible show wpAny _ _ (call (Value.builtin "len") [Value.ref _]) _ _ _); k_dflt (refine len_led (by k_asm) (by walk_at "my mem") (by first | assumption | exact rfl) (by first | with_reducible assumption | omega) ?_; k_whole); intro t' k')
  k_with "my for" => (k_here; (rename Fr _ _ _ _ => lF'); (with_unfolding_all refine For_turns lF' ?_; k_whole))
  k_with "my frame" => (repeat' (first | exact OffStored.base | exact OffStored.refl _ _ | refine OffStored.put (by decide) ?_))
  k_with "my append" => (k_here; k_dflt (show wpAny _ _ (call (Value.builtin "list.append") [Value.ref _, _]) _ _ _); k_dflt (refine append_led (by k_asm) (by k_asm) (by walk_at "my mem") ?_ (by first | assumption | size_fits)); intro h' F' N')
  k_with "my div" => (k_here; (with_reducible show wpAny _ _ (binaryOp _ (Value.int _ _) (Value.float _ _)) _ _ _); k_dflt (refine div_if (by exact rfl) (by first | assumption | omega) (by decide +kernel) ?_; k_whole))
  k_with "my join" => (refine JoinP.of (by k_asm) (by k_asm) (by (intro y hy; first | rfl | exact if_neg hy)) ?_)
  k_with "storeName" => (k_here; (try dsimp only); k_dflt (refine storeX_L (by k_asm) (by k_asm) ?_ (by rfl) (by rfl); k_whole; intro h' F' N'; (try k_sweep)))
  k_with "my enterC" => (refine code_defC (by k_asm) (by k_asm) (by k_asm) (by k_asm) (by k_asm) (by exact rfl) (by exact rfl) (by assumption) (by k_is) (by k_is) (by ktr_room) (by exact BindsTo.of_eq rfl) (by exact rfl) (by decide +kernel) ?_ (by exact rfl) (by exact rfl) (by exact rfl); k_whole; intro g' L' h' tk' cells' FG' F' N' Y' B' X' T' l1; k_cells Y'; (try simp only [List.cons_append, List.nil_append] at N'); (try dsimp only); (try k_lift B'); (try k_fold))
  k_with "setItem ref int" => (k_here; k_dflt (refine set_led (by k_asm) (by k_asm) (by walk_at "my mem") (by first | assumption | omega) (by first | assumption | omega) (by first | assumption | omega) ?_; k_whole); intro h' F' N')
  k_with "my tup" => ((with_reducible show wpAny _ _ (subscriptTail _ _ (Value.ref _) (Value.int _ _)) _ _ _); k_dflt (refine tup_led (by k_asm) (by walk_at "my mem") (by first | decide | with_reducible assumption | omega) (by first | decide | with_reducible assumption | omega) (by first | with_reducible assumption | exact rfl) ?_ (by with_unfolding_all rfl); k_whole))
  k_with "my comp" => (k_here; k_dflt (refine PyProof.Rows.LCg.CompSrc.ledger (by rfl) (by k_asm) (by k_asm) (by walk_at "my mem") (by first | assumption | size_fits | exact Nat.le_of_ble_eq_true rfl) ?_); intro g'; refine Halt.go ?_)
  k_with "my str.join" => (k_here; k_dflt (show wpAny _ _ (call (Value.builtin "str.join") [Value.str _ _, Value.ref _]) _ _ _); k_dflt (refine join_led (by k_asm) (by walk_at "my mem") (by assumption) (by assumption) (by assumption) (by decide +kernel) ?_); intro t' k')
  k_with "my free" => (k_here; (with_reducible show wpAny _ _ (eval (Expr.Name _ _) (compEnvC _ _ _ _)) _ _ _); k_dflt (refine ld_free (by rfl) (by k_asm) (by rfl) (by assumption) (by assumption) ?_))
  trivial

theorem more_MCells_1 : True := by
  k_with "exec For Tuple Call cons nil" => (walk_at "my for")
  trivial
def CJ (sl lc : Addr) (so : Obj) (news : Led) (m₀ : Str → Option Value) (_i : Nat) (m : Str → Option Value) (led : Led) : Prop :=
  OffStored ["k", "x"] m₀ m ∧ ∃ (vals : List Value) (ms : List Int) (n : Nat), led = (sl, so) :: (lc, W.listOf vals.toArray n) :: news ∧ IntsAre vals ms ∧ ms.length = 6 ∧ ∀ x ∈ ms, 0 ≤ x
theorem CJ.start {sl lc : Addr} {so : Obj} {news : Led} {m₀ : Str → Option Value} {t0 t1 t2 t3 t4 t5 : Tok} :
    CJ sl lc so news m₀ 0 m₀ ((sl, so) :: (lc, W.listOf #[.int 48 t0, .int 368 t1, .int 42 t2, .int 712 t3, .int 85 t4, .int 1011 t5] 0) :: news) :=
  ⟨OffStored.refl _ _, [.int 48 t0, .int 368 t1, .int 42 t2, .int 712 t3, .int 85 t4, .int 1011 t5], [48, 368, 42, 712, 85, 1011], 0, rfl,
    .cons _ _ (.cons _ _ (.cons _ _ (.cons _ _ (.cons _ _ (.cons _ _ .nil))))), rfl, by decide⟩
theorem getD_nonneg {ms : List Int} (h : ∀ x ∈ ms, 0 ≤ x) (j : Nat) : 0 ≤ ms.getD j 0 := by
  by_cases hj : j < ms.length
  · have e : ms.getD j 0 = ms[j] := by simp [List.getD, hj]
    rw [e]; exact h _ (List.getElem_mem hj)
  · have e : ms.getD j 0 = 0 := by simp [List.getD, Nat.not_lt.mp hj]
    rw [e]; exact Int.le_refl _
theorem CJ.step {sl lc I I' : Addr} {so : Obj} {news own : Led} {m₀ m' : Str → Option Value} {i n j : Nat} {vals : List Value} {ms : List Int} {v : Int} {t : Tok} (hm : OffStored ["k", "x"] m₀ m')
    (hV : IntsAre vals ms) (h6 : ms.length = 6) (h0 : ∀ x ∈ ms, 0 ≤ x) (hv : 0 ≤ v) (hsl : lc < sl) (hlt : ∀ p ∈ news, p.1 < lc)
    (hoff : ∀ p ∈ (sl, so) :: (lc, W.listOf vals.toArray n) :: news, p.1 ∉ [I, I']) (hown : ∀ p ∈ own, p.1 ∈ [I, I', sl]) :
    ∃ news', CJ sl lc so news m₀ (i + 1) m' news' ∧ (∀ p ∈ news', p.1 ∉ [I, I']) ∧
      ∀ p ∈ own ++ news', p ∈ updL lc (W.listOf (vals.set j (.int v t)).toArray n) (own ++ (sl, so) :: (lc, W.listOf vals.toArray n) :: news) := by
  have hc := hoff (lc, W.listOf vals.toArray n) (by simp)
  simp at hc
  refine ⟨(sl, so) :: (lc, W.listOf (vals.set j (.int v t)).toArray n) :: news, ⟨hm, _, ms.set j v, n, rfl, ints_set hV j, by simpa using h6, ?_⟩, ?_, ?_⟩
  · intro x hx
    rcases List.mem_or_eq_of_mem_set hx with h | rfl
    · exact h0 x h
    · exact hv
  · intro p hp
    rcases List.mem_cons.mp hp with rfl | hp
    · exact hoff (sl, so) (by simp)
    · rcases List.mem_cons.mp hp with rfl | hp
      · simpa using hc
      · exact hoff p (by simp [hp])
  · intro p hp
    rcases List.mem_append.mp hp with hp | hp
    · refine updL_mem (List.mem_append_left _ hp) ?_
      have := hown p hp
      simp at this
      rcases this with e | e | e
      · rw [e]; exact Ne.symm hc.1
      · rw [e]; exact Ne.symm hc.2
      · rw [e]; exact Nat.ne_of_gt hsl
    · rcases List.mem_cons.mp hp with rfl | hp
      · exact updL_mem (by simp) (Nat.ne_of_gt hsl)
      · rcases List.mem_cons.mp hp with rfl | hp
        · exact updL_new (o := W.listOf vals.toArray n) (by simp)
        · exact updL_mem (by simp [hp]) (Nat.ne_of_lt (hlt p hp))
theorem cells_spec (w : World) (news : Led) (l : Addr) (its : List Value) (ns : List Int) (hi : IntsAre its ns) (hlen : ns.length ≤ 63) :
   CallSpecL w 91 [.ref l] l its news 2 (fun tl r => ∃ (lc : Addr) (vals : List Value) (ms : List Int) (n : Nat), r = .ref lc ∧ tl = [(lc, W.listOf vals.toArray n)] ∧ IntsAre vals ms ∧ (ms.length = 4 ∨ ms.length = 6) ∧ ∀ x ∈ ms, 0 ≤ x) := by
  w_on
  intro p loose mean mg mb dp un gd cn cs a ccd cl outer A₀ base h₀ L m s Q E B F X N T hk hl hd hu hret
  refine wpAny_call ?_
  k_dflt cell_enter
  k_steps
  rename Fr _ _ _ _ => F1
  rename News _ _ _ _ => N1
  rename IntsAre _ (List.take _ _) => hW
  with_unfolding_all refine enum_turns (CJ _ _ _ news _) rfl F1 N1 (List.mem_cons_self ..) CJ.start ?_ ?_
  · rintro i T t v m₁ news₁ h₁ tk₁ own I I' hv hT ⟨hm₁, vals, ms, n, rfl, hV, h6, h0⟩ hlt hlt' hoff hown hI hI' F2 N2
    obtain ⟨u, rfl⟩ := hm₁.form
    obtain ⟨x, tx, rfl, hx⟩ := IntsAre.at hW i v hv
    clear F1 N1
    have b1 := fmod_b (i : Int) (n := 6) (by decide)
    have hl6 : vals.length = 6 := hV.length.trans h6
    have hi12 : i < 12 := by
      have : (List.take 12 ns).length ≤ 12 := by simp; omega
      have := (List.getElem?_eq_some_iff.mp hx).1
      omega
    have c1 : Int.fmod (i : Int) 6 < (vals.length : Int) := by omega
    have c2 : 0 ≤ ms.getD (Int.fmod (i : Int) 6).toNat 0 + Int.fmod x 1000000 := by
      have a1 := getD_nonneg h0 (Int.fmod (i : Int) 6).toNat
      have a2 := fmod_b x (n := 1000000) (by decide)
      omega
    k_steps
    rename News _ _ _ _ => N3
    rename Fr _ _ _ _ => F3
    exact TEnd.of F3 N3 (CJ.step (by walk_at "my frame") hV h6 h0 c2 (And.left (by assumption)) (by assumption) hoff hown)
  · rintro h' tk m' news' F' N' ⟨hm', vals, ms, n, rfl, hV, h6, h0⟩
    obtain ⟨u, rfl⟩ := hm'.form
    clear F1 N1
    k_steps
    · refine' ret1 hret ?cF ?cN ?cl ?cO
      case cF => k_asm
      case cN => exact news_sub (by k_asm) (fun p hp => List.mem_cons_of_mem _ hp)
      case cl => assumption
      case cO => exact ⟨_, _, ms, n, rfl, rfl, hV, .inr h6, h0⟩
    · rename IntsAre _ (List.take _ ms) => hS
      refine' ret1 hret ?cF ?cN ?cl ?cO
      case cF => k_asm
      case cN => exact news_sub (by k_asm) (fun p hp => by
        rcases List.mem_cons.mp hp with rfl | hp
        · exact List.mem_cons_self ..
        · exact List.mem_cons_of_mem _ (List.mem_cons_of_mem _ (List.mem_cons_of_mem _ hp)))
      case cl =>
        rename _ ∧ _ ∧ AllLt _ news => hA
        exact ktn_ltOf hA.2.2
      case cO => exact ⟨_, _, _, _, rfl, rfl, hS, .inl (by simp [h6]), fun x hx => h0 x (List.mem_of_mem_take hx)⟩
end

section
/-! _law_lines -/
abbrev Rgb := UInt64 × UInt64 × UInt64
def satOf (c : Rgb) : Bool := Float64.cmpInt (rgbF c.1 c.2.1 c.2.2).2.1 0 == some Ordering.gt
def hueOf (c : Rgb) : Int := Flt.toInt Float64.truncOf (Float64.mul (rgbF c.1 c.2.1 c.2.2).1 (Float64.ofInt 16))
def placeAt (c : Rgb) : Option Int := if satOf c = true then some (hueOf c) else none
def optV (o : Option Int) (t : Tok) : Value := match o with | some i => .int i t | none => .none
/-- the lamps' data stand in the ledger -/
def LampsAt (news : Led) (lp : Addr) (as : List Addr) (n z : Nat) (cs : Nat → Rgb) : Prop :=
  (lp, W.listOf (as.map Value.ref).toArray n) ∈ news ∧ as.length = z ∧ ∀ j, j < z → ∃ a t0 t1 t2, as[j]? = some a ∧ (a, tup3 (cs j) t0 t1 t2) ∈ news
structure PaintOk (c : Rgb) : Prop where
  div : (Float64.cmp (gL c.1 c.2.1 c.2.2) (gM c.1 c.2.1 c.2.2) == some Ordering.eq) = false → ¬ Float64.isZero (gM c.1 c.2.1 c.2.2) = true ∧ ¬ Float64.isZero (gR c.1 c.2.1 c.2.2) = true
  fin : satOf c = true → Float64.isFinite (Float64.mul (rgbF c.1 c.2.1 c.2.2).1 (Float64.ofInt 16)) = true
section
open PySem.Flt
theorem int_fin {prog : Program} {w : World} {A : Around} {E : Value → Shared → Prop} {s : Shared} {x : UInt64} {t : Tok} {Q : Value → Shared → Prop} (hA : A.handled = none) (hf : Float64.isFinite x = true)
    (h : Q (.int (Flt.toInt Float64.truncOf x) s.toks) { s with toks := s.toks + 1 }) : wpAny (model prog w) A (call (.type "int") [.float x t]) Q E s :=
  call_int_float3 hA (fun c => by exfalso; revert hf c; unfold Float64.isFinite Float64.isNaN; cases Float64.decode x <;> simp) (fun c => by exfalso; revert hf c; unfold Float64.isFinite Float64.isInf; cases Float64.decode x <;> simp) (fun _ => h)
end
theorem lines_MLines : True := by
  k_with_none
  k_with "my mem" => (first | assumption | k_mem)
  k_with "my kmem" => (first | assumption | (refine List.mem_append_right _ ?_; k_mem) | (refine List.mem_cons_of_mem _ ?_; k_mem))
  k_with "my kmem" => (exact List.mem_cons_self ..)
  k_with "subscriptTail Name Name ref int" => (walk_at "my item")
  k_with "subscriptTail Name Constant ref int" => (walk_at "my item")
  k_with "my item" => ((with_reducible show wpAny _ _ (subscriptTail _ _ (Value.ref _) (Value.int _ _)) _ _ _); k_dflt (refine item_led (by k_asm) (by walk_at "my mem") (by first | decide | with_reducible assumption | omega) (by first | decide | with_reducible assumption | omega) (by first | with_reducible assumption | exact rfl) ?_ (by with_unfolding_all rfl); k_whole))
  k_with "call builtin:len" => (k_here; (with_reducible show wpAny _ _ (call (Value.builtin "len") [Value.ref _]) _ _ _); k_dflt (refine len_led (by k_asm) (by walk_at "my mem") (by first | assumption | exact rfl) (by first | with_reducible assumption | omega) ?_; k_whole); intro t' k')
  k_with "my for" => (k_here; (rename Fr _ _ _ _ => lF'); (with_unfolding_all refine For_turns lF' ?_; k_whole))
  k_with "my frame" => (repeat' (first | exact OffStored.base | exact OffStored.refl _ _ | refine OffStored.put (by decide) ?_))
  k_with "my append" => (k_here; k_dflt (show wpAny _ _ (call (Value.builtin "list.append") [Value.ref _, _]) _ _ _); k_dflt (refine append_led (by k_asm) (by k_asm) (by walk_at "my mem") ?_ (by first | assumption | size_fits)); intro h' F' N')
  k_with "my div" => (k_here; (with_reducible show wpAny _ _ (binaryOp _ (Value.int _ _) (Value.float _ _)) _ _ _); k_dflt (refine div_if (by exact rfl) (by first | assumption | omega) (by decide +kernel) ?_; k_whole))
  k_with "my join" => (refine JoinP.of (by k_asm) (by k_asm) (by (intro y hy; first | rfl | exact if_neg hy)) ?_)
  k_with "storeName" => (k_here; (try dsimp only); k_dflt (refine storeX_L (by k_asm) (by k_asm) ?_ (by rfl) (by rfl); k_whole; intro h' F' N'; (try k_sweep)))
  k_with "my enterC" => (refine code_defC (by k_asm) (by k_asm) (by k_asm) (by k_asm) (by k_asm) (by exact rfl) (by exact rfl) (by assumption) (by k_is) (by k_is) (by ktr_room) (by exact BindsTo.of_eq rfl) (by exact rfl) (by decide +kernel) ?_ (by exact rfl) (by exact rfl) (by exact rfl); k_whole; intro g' L' h' tk' cells' FG' F' N' Y' B' X' T' l1; k_cells Y'; (try simp only [List.cons_append, List.nil_append] at N'); (try dsimp only); (try k_lift B'); (try k_fold))
  k_with "setItem ref int" => (k_here; k_dflt (refine set_led (by k_asm) (by k_asm) (by walk_at "my mem") (by first | assumption | omega) (by first | assumption | omega) (by first | assumption | omega) ?_; k_whole); intro h' F' N')
  k_with "my tup" => ((with_reducible show wpAny _ _ (subscriptTail _ _ (Value.ref _) (Value.int _ _)) _ _ _); k_dflt (refine tup_led (by k_asm) (by walk_at "my mem") (by first | decide | with_reducible assumption | omega) (by first | decide | with_reducible assumption | omega) (by first | with_reducible assumption | exact rfl) ?_ (by with_unfolding_all rfl); k_whole))
  k_with "my comp" => (k_here; k_dflt (refine PyProof.Rows.LCg.CompSrc.ledger (by rfl) (by k_asm) (by k_asm) (by walk_at "my mem") (by first | assumption | size_fits | exact Nat.le_of_ble_eq_true rfl) ?_); intro g'; refine Halt.go ?_)
  k_with "my str.join" => (k_here; k_dflt (show wpAny _ _ (call (Value.builtin "str.join") [Value.str _ _, Value.ref _]) _ _ _); k_dflt (refine join_led (by k_asm) (by walk_at "my mem") (by assumption) (by assumption) (by assumption) (by decide +kernel) ?_); intro t' k')
  k_with "my free" => (k_here; (with_reducible show wpAny _ _ (eval (Expr.Name _ _) (compEnvC _ _ _ _)) _ _ _); k_dflt (refine ld_free (by rfl) (by k_asm) (by rfl) (by assumption) (by assumption) ?_))
  trivial

theorem more_MLines_1 : True := by
  k_with "exec For Name Name cons nil" => (walk_at "my for")
  k_with "subscriptTail Name Constant ref int" => (walk_at "my tup")
  k_with "call builtin:list.append" => (walk_at "my append")
  k_with "call type:int" => ((with_reducible show wpAny _ _ (call _ [Value.float _ _]) _ _ _); k_dflt (refine int_fin (by exact rfl) (by exact PaintOk.fin (by assumption) (by with_unfolding_all assumption)) ?_; k_whole))
  k_with "my updF" => (assumption)
  k_with "eval Name" => (walk_at "my free")
  k_with "CompSrc" => (walk_at "my comp")
  k_with "call builtin:str.join" => (walk_at "my str.join")
  k_with "call ref" => (k_here; (with_reducible show wpAny _ _ (call _ [Value.int _ _, Value.none]) _ _ _); k_dflt (refine call_use (side_none _ _ _ _) (by k_asm) (by k_asm) (by k_asm) (by k_asm) (by k_asm) (by first | exact rfl | assumption) (by ktr_room) (by ktr_units) ?_); rintro r' tl' h' tk' F' N' o' ⟨e0', t0', e1'⟩; subst e0'; subst e1')
  k_with "call ref" => (k_here; (with_reducible show wpAny _ _ (call _ [Value.int _ _, Value.int _ _]) _ _ _); k_dflt (refine call_use (side_some _ _ _ _ _ _) (by k_asm) (by k_asm) (by k_asm) (by k_asm) (by k_asm) (by first | exact rfl | assumption) (by ktr_room) (by ktr_units) ?_); rintro r' tl' h' tk' F' N' o' ⟨e0', t0', e1'⟩; subst e0'; subst e1')
  k_with "call ref" => (k_here; k_dflt (refine call_use (rgb_spec _ _ _ _ _ _ _ _ (by assumption)) (by k_asm) (by k_asm) (by k_asm) (by k_asm) (by k_asm) (by first | exact rfl | assumption) (by ktr_room) (by ktr_units) ?_); rintro r' tl' h' tk' F' N' o' ⟨a', t0', t1', t2', e1', e2'⟩; subst e1'; subst e2')
  trivial
def LJ1 (ls : Addr) (rest : Led) (m₀ : Str → Option Value) (pc : Nat → Rgb) (i : Nat) (m : Str → Option Value) (led : Led) : Prop :=
  OffStored ["paint", "hue", "saturation", "value"] m₀ m ∧ ∃ (vals : List Value) (n : Nat), led = (ls, W.listOf vals.toArray n) :: rest ∧ vals.length = i ∧ ∀ j, j < i → ∃ t, vals[j]? = some (optV (placeAt (pc j)) t)
theorem LJ1.start {ls : Addr} {rest : Led} {m₀ : Str → Option Value} {pc : Nat → Rgb} : LJ1 ls rest m₀ pc 0 m₀ ((ls, W.listOf #[] 0) :: rest) :=
  ⟨OffStored.refl _ _, [], 0, rfl, rfl, fun j h => absurd h (Nat.not_lt_zero _)⟩
theorem LJ1.step {ls lp I a' : Addr} {ob : Obj} {rest own : Led} {m₀ m' : Str → Option Value} {pc : Nat → Rgb} {i n : Nat} {vals : List Value} {x : Value}
    (hm : OffStored ["paint", "hue", "saturation", "value"] m₀ m') (hlen : vals.length = i) (hall : ∀ j, j < i → ∃ t, vals[j]? = some (optV (placeAt (pc j)) t)) (hx : ∃ t, x = optV (placeAt (pc i)) t)
    (ho : ∀ q ∈ own ++ (ls, W.listOf vals.toArray n) :: rest, ∀ p ∈ [(a', ob)], q.1 ≠ p.1)
    (hne : ∀ p ∈ rest, p.1 ≠ ls) (hlp : lp ≠ ls) (hoff : ∀ p ∈ (ls, W.listOf vals.toArray n) :: rest, p.1 ∉ [I]) (hown : ∀ p ∈ own, p.1 ∈ [I, lp]) :
    ∃ news', LJ1 ls rest m₀ pc (i + 1) m' news' ∧ (∀ p ∈ news', p.1 ∉ [I]) ∧
      ∀ p ∈ own ++ news', p ∈ updL ls (W.listOf (vals.toArray.push x) (n + 1)) ([(a', ob)] ++ (own ++ (ls, W.listOf vals.toArray n) :: rest)) := by
  have hlI : ls ≠ I := fun e => hoff (ls, W.listOf vals.toArray n) (by simp) (by simp [e])
  have hlst : W.listOf (vals.toArray.push x) (n + 1) = W.listOf (vals ++ [x]).toArray (n + 1) := by simp
  refine ⟨(ls, W.listOf (vals ++ [x]).toArray (n + 1)) :: rest, ⟨hm, vals ++ [x], n + 1, rfl, by simp [hlen], ?_⟩, ?_, ?_⟩
  · intro j hj
    by_cases hji : j < i
    · obtain ⟨t, e⟩ := hall j hji
      exact ⟨t, by rw [List.getElem?_append_left (by omega)]; exact e⟩
    · have e : j = i := by omega
      subst e
      obtain ⟨t, rfl⟩ := hx
      exact ⟨t, by rw [← hlen]; simp⟩
  · intro p hp
    rcases List.mem_cons.mp hp with rfl | hp
    · simpa using hlI
    · exact hoff p (List.mem_cons_of_mem _ hp)
  · intro p hp
    rw [hlst]
    rcases List.mem_append.mp hp with hp | hp
    · refine updL_mem (by simp [hp]) ?_
      have := hown p hp
      simp at this
      rcases this with e | e <;> rw [e]
      · exact Ne.symm hlI
      · exact hlp
    · rcases List.mem_cons.mp hp with rfl | hp
      · exact updL_new (o := W.listOf vals.toArray n) (by simp)
      · exact updL_mem (by simp [hp]) (hne p hp)
theorem all_ne_cons {c d : Addr} {o : Obj} {l : Led} (h : c < d ∧ AllLt d l) : ∀ p ∈ (c, o) :: l, p.1 ≠ d := fun p hp => by
  rcases List.mem_cons.mp hp with rfl | hp
  · exact Nat.ne_of_lt h.1
  · exact Nat.ne_of_lt (ktn_ltOf h.2 p hp)
theorem place_some {c : Rgb} {t' : Tok} (h : satOf c = true) : ∃ t, Value.int (hueOf c) t' = optV (placeAt c) t := ⟨t', by rw [placeAt, if_pos h]; rfl⟩
theorem place_none {c : Rgb} (h : satOf c = false) : ∃ t : Tok, Value.none = optV (placeAt c) t := ⟨default, by rw [placeAt, h]; rfl⟩
/-- the lines' word of one lamp -/
def lineWord (z : Nat) (pl : Nat → Option Int) (here : Int) : Str := PySem.Txt.join "" ((List.range z).map fun j => sideOf here (pl j))
def LJ2 (lw ls I0 : Addr) (vals : List Value) (nv : Nat) (news : Led) (m₀ : Str → Option Value) (z : Nat) (pl : Nat → Option Int) (i : Nat) (m : Str → Option Value) (led : Led) : Prop :=
  m = m₀ ∧ ∃ (ws : List Value) (n : Nat) (o : Obj) (v : Option Value), led = (lw, W.listOf ws.toArray n) :: (ls, W.listOf vals.toArray nv) :: (I0, o) :: news ∧ o.data = .cell v ∧ ws.length ≤ i ∧
    StrsAre ws (((List.range i).filterMap pl).map (lineWord z pl))
theorem UpdF.app {c : Addr} {o : Obj} {l : Led} {g : Obj → Led} : ∀ {own : Led}, (∀ p ∈ own, p.1 ≠ c) → UpdF c o l g → UpdF c o (own ++ l) (fun o' => own ++ g o')
  | [], _, U => U
  | _ :: _, h, U => UpdF.tail (h _ (List.mem_cons_self ..)) (UpdF.app (fun p hp => h p (List.mem_cons_of_mem _ hp)) U)
theorem own_ne_cell {lw ls c I : Addr} {news own : Led} {a b o : Obj} (h : ls < lw ∧ c < lw ∧ AllLt lw news) (hc : c < ls) (hoff : ∀ p ∈ (lw, a) :: (ls, b) :: (c, o) :: news, p.1 ∉ [I]) (hown : ∀ p ∈ own, p.1 ∈ [I, ls]) : ∀ p ∈ own, p.1 ≠ c := fun p hp => by
  have := hown p hp
  have h2 := hoff (c, o) (by simp)
  simp at this h2
  rcases this with e | e <;> rw [e]
  · exact fun e => h2 e.symm
  · exact (Nat.ne_of_lt hc).symm
theorem LJ2.upd {lw ls L : Addr} {news : Led} {a b o : Obj} (h : ls < lw ∧ L + 1 < lw ∧ AllLt lw news) (hc : L + 1 < ls) (hn : ∀ p ∈ news, p.1 < L) : UpdF (L + 1) o ((lw, a) :: (ls, b) :: (L + 1, o) :: news) (fun o' => (lw, a) :: (ls, b) :: (L + 1, o') :: news) :=
  UpdF.tail (Nat.ne_of_lt h.2.1).symm (UpdF.tail (Nat.ne_of_lt hc).symm (UpdF.head fun p hp => Nat.ne_of_lt (Nat.lt_succ_of_lt (hn p hp))))
theorem LJ2.offI {lw ls c I : Addr} {news : Led} {a a' b o o' : Obj} (hoff : ∀ p ∈ (lw, a) :: (ls, b) :: (c, o) :: news, p.1 ∉ [I]) : ∀ p ∈ (lw, a') :: (ls, b) :: (c, o') :: news, p.1 ∉ [I] := fun p hp => by
  simp only [List.mem_cons] at hp
  rcases hp with rfl | rfl | rfl | hp
  · exact hoff (lw, a) (by simp)
  · exact hoff (ls, b) (by simp)
  · exact hoff (c, o) (by simp)
  · exact hoff p (by simp [hp])
theorem LJ2.none {lw ls I0 : Addr} {vals ws : List Value} {nv n : Nat} {news : Led} {m₀ : Str → Option Value} {z : Nat} {pl : Nat → Option Int} {i : Nat} {o : Obj} {v : Option Value}
    (e : pl i = .none) (hd : o.data = .cell v) (hl : ws.length ≤ i) (hs : StrsAre ws (((List.range i).filterMap pl).map (lineWord z pl))) :
    LJ2 lw ls I0 vals nv news m₀ z pl (i + 1) m₀ ((lw, W.listOf ws.toArray n) :: (ls, W.listOf vals.toArray nv) :: (I0, o) :: news) :=
  ⟨rfl, ws, n, o, v, rfl, hd, by omega, by rw [List.range_succ, List.filterMap_append]; simpa [e] using hs⟩
theorem LJ2.some {lw ls I0 D I : Addr} {vals ws : List Value} {nv n : Nat} {news own : Led} {m₀ : Str → Option Value} {z : Nat} {pl : Nat → Option Int} {i : Nat} {o' o od : Obj} {v : Option Value} {here : Int} {t : Tok}
    (e : pl i = some here) (hd : o'.data = .cell v) (hl : ws.length ≤ i) (hs : StrsAre ws (((List.range i).filterMap pl).map (lineWord z pl)))
    (lt3 : ls < lw ∧ I0 < lw ∧ AllLt lw news) (hoff : ∀ p ∈ (lw, W.listOf ws.toArray n) :: (ls, W.listOf vals.toArray nv) :: (I0, o) :: news, p.1 ∉ [I]) (hown : ∀ p ∈ own, p.1 ∈ [I, ls])
    (oD : ∀ p ∈ own ++ (lw, W.listOf ws.toArray n) :: (ls, W.listOf vals.toArray nv) :: (I0, o') :: news, p.1 ≠ D) :
    ∃ news', LJ2 lw ls I0 vals nv news m₀ z pl (i + 1) m₀ news' ∧ (∀ p ∈ news', p.1 ∉ [I]) ∧
      ∀ p ∈ own ++ news', p ∈ updL lw (W.listOf (ws.toArray.push (.str (Txt.join "" ((List.range z).map fun j => sideOf here (pl j))) t)) (n + 1)) ((D, od) :: (own ++ (lw, W.listOf ws.toArray n) :: (ls, W.listOf vals.toArray nv) :: (I0, o') :: news)) := by
  have hlst : ∀ x, W.listOf (ws.toArray.push x) (n + 1) = W.listOf (ws ++ [x]).toArray (n + 1) := fun x => by simp
  have hlwI : lw ≠ I := fun e => hoff (lw, W.listOf ws.toArray n) (by simp) (by simp [e])
  rw [hlst]
  generalize ex : Value.str (Txt.join "" ((List.range z).map fun j => sideOf here (pl j))) t = x
  refine ⟨(lw, W.listOf (ws ++ [x]).toArray (n + 1)) :: (ls, W.listOf vals.toArray nv) :: (I0, o') :: news, ⟨rfl, ws ++ [x], n + 1, o', v, rfl, hd, by simp; omega, ?_⟩, LJ2.offI (a := W.listOf ws.toArray n) hoff, ?_⟩
  · rw [List.range_succ, List.filterMap_append, List.map_append]
    have e2 : (List.filterMap pl [i]).map (lineWord z pl) = [lineWord z pl here] := by simp [e]
    rw [e2, ← ex]
    exact StrsAre.append' hs (.cons _ t .nil)
  · intro p hp
    rcases List.mem_append.mp hp with hp | hp
    · refine updL_mem (by simp [hp]) ?_
      have := hown p hp
      simp at this
      rcases this with e | e <;> rw [e]
      · exact Ne.symm hlwI
      · exact Nat.ne_of_lt lt3.1
    · rcases List.mem_cons.mp hp with rfl | hp
      · exact updL_new (o := W.listOf ws.toArray n) (by simp)
      · refine updL_mem (by simp [hp]) ?_
        rcases List.mem_cons.mp hp with rfl | hp
        · exact Nat.ne_of_lt lt3.1
        · rcases List.mem_cons.mp hp with rfl | hp
          · exact Nat.ne_of_lt lt3.2.1
          · exact Nat.ne_of_lt (ktn_ltOf lt3.2.2 p hp)
theorem side_ones (pl : Nat → Option Int) (here : Int) (z : Nat) : ∀ g ∈ (List.range z).map (fun j => sideOf here (pl j)), g.length = 1 := fun g hg => by
  obtain ⟨j, _, rfl⟩ := List.mem_map.mp hg
  unfold sideOf
  split
  · decide
  · split
    · decide
    · split <;> decide
theorem LJ2.cellMem {h₀ h : Heap} {L I C D lw ls c : Addr} {oI oC oD a b o : Obj} {own news : Led} (_ : News h₀ L h ((I, oI) :: (C, oC) :: (D, oD) :: (own ++ (lw, a) :: (ls, b) :: (c, o) :: news))) :
    (c, o) ∈ (I, oI) :: (C, oC) :: (D, oD) :: (own ++ (lw, a) :: (ls, b) :: (c, o) :: news) := by simp
theorem lines_spec (w : World) (news : Led) (lp : Addr) (as : List Addr) (n z : Nat) (pc : Nat → Rgb) (hl : LampsAt news lp as n z pc) (hok : ∀ j, j < z → PaintOk (pc j)) (hz : z < 100) :
   CallSpec w 132 [.ref lp] news 2 (fun tl r => ∃ (lw : Addr) (ws : List Value) (n : Nat), r = .ref lw ∧ tl = [(lw, W.listOf ws.toArray n)] ∧ StrsAre ws (((List.range z).filterMap fun j => placeAt (pc j)).map (lineWord z fun j => placeAt (pc j)))) := by
  w_on
  intro p loose mean mg mb dp un gd cn cs a ccd cl outer A₀ base h₀ L m s Q E B F X N T hk hd hu hret
  obtain ⟨hlp, has, hat⟩ := hl
  refine wpAny_call ?_
  k_dflt walk_at "my enterC"
  k_steps
  rename Fr _ _ _ _ => F1
  rename News _ _ _ _ => N1
  rename ∀ p ∈ news, p.1 < _ => lt1
  rename _ ∧ AllLt _ news => lt2
  have hrest : ∀ p ∈ news, p.1 ≠ _ := fun p hp => Nat.ne_of_lt (ktn_ltOf lt2.2 p hp)
  with_unfolding_all refine list_turns (LJ1 _ _ _ pc) rfl F1 N1 (List.mem_cons_of_mem _ (List.mem_cons_of_mem _ hlp)) LJ1.start ?_ ?_
  · rintro i v m₁ news₁ h₁ tk₁ own I hv ⟨hm₁, vals, nn, rfl, hlen, hall⟩ hltI hoff hown hI F2 N2
    obtain ⟨u, rfl⟩ := hm₁.form
    have hiz : i < z := by
      have := (List.getElem?_eq_some_iff.mp hv).1
      simp at this; omega
    obtain ⟨ai, t0, t1, t2, ea, hta⟩ := hat i hiz
    have ev : v = .ref ai := by simpa [ea] using hv.symm
    subst ev
    have hdiv := (hok i hiz).div
    have hoki := hok i hiz
    have hsz : vals.toArray.size ≤ sizeLine := by simp [sizeLine]; omega
    have hta' : (ai, ({ cls := .type "tuple", data := .seq [Value.float (pc i).1 t0, .float (pc i).2.1 t1, .float (pc i).2.2 t2].toArray } : Obj)) ∈ news := hta
    clear F1 N1
    have hlp' : lp ≠ _ := hrest _ hlp
    k_steps
    all_goals (rename News _ _ _ _ => N3)
    all_goals (rename Fr _ _ _ _ => F3)
    all_goals (rename ∀ q ∈ own ++ _, _ => ho)
    all_goals first
      | (have hs : satOf (pc i) = true := by (unfold satOf; assumption)
         exact TEnd.of F3 N3 (LJ1.step (by walk_at "my frame") hlen hall (place_some (c := pc i) hs) ho (all_ne_cons lt2) hlp' hoff hown))
      | (have hs : satOf (pc i) = false := by (unfold satOf; assumption)
         exact TEnd.of F3 N3 (LJ1.step (by walk_at "my frame") hlen hall (place_none (c := pc i) hs) ho (all_ne_cons lt2) hlp' hoff hown))
  · rintro h' tk' m' news' F' N' ⟨hm', vals, nv, rfl, hvl, hvals⟩
    obtain ⟨u, rfl⟩ := hm'.form
    clear F1 N1
    k_steps
    rename Fr _ _ _ _ => F1
    rename News _ _ _ _ => N1
    rename _ ∧ _ ∧ AllLt _ _ => lt3

    with_unfolding_all refine list_turns (LJ2 _ _ _ vals nv news _ z (fun j => placeAt (pc j))) rfl F1 N1 (List.mem_cons_of_mem _ (List.mem_cons_self ..)) ⟨rfl, [], 0, _, _, rfl, by assumption, Nat.le_refl _, .nil⟩ ?_ ?_
    · rintro i v m₁ news₁ h₁ tk₁ own I hv ⟨hm₁, ws, n, oc, vc, rfl, hoc, hwl, hws⟩ hltI hoff hown hI F2 N2
      subst hm₁
      clear F1 N1
      have hiv : i < vals.length := (List.getElem?_eq_some_iff.mp hv).1
      have hvz : vals.length = z := by simpa [has] using hvl
      obtain ⟨t, ev⟩ := hvals i (hvl ▸ hiv)
      have hU := UpdF.app (l := _ :: _ :: _ :: news) (own_ne_cell lt3 lt2.1 hoff hown) (LJ2.upd (a := W.listOf ws.toArray n) (b := W.listOf vals.toArray nv) (o := oc) lt3 lt2.1 lt1)
      have hsz : ws.toArray.size ≤ sizeLine := by simp only [List.size_toArray, sizeLine]; omega
      have hsv : vals.toArray.size ≤ sizeLine := by simp only [List.size_toArray, sizeLine]; omega
      cases epl : placeAt (pc i) with
      | none =>
        have e' : v = Value.none := by rw [epl] at ev; simpa [ev, optV] using hv.symm
        subst e'
        k_steps
        rename News _ _ _ _ => N3
        rename Fr _ _ _ _ => F3
        rename Obj.data _ = Data.cell _ => d3
        exact TEnd.next F3 N3 (LJ2.offI hoff) (LJ2.none epl d3 hwl hws)
      | some here =>
        have e' : v = Value.int here t := by rw [epl] at ev; simpa [ev, optV] using hv.symm
        subst e'
        k_steps
        refine Halt.mk ?_
        refine comp_pure (fun j y => ∃ t, y = Value.str (sideOf here (placeAt (pc j))) t) (src_led (by walk_at "my mem")) ?_ ?_
        · intro j v ys I2 oI C oC D m2 h tk E' hj hP hC hx F N
          have hcm := LJ2.cellMem N
          obtain ⟨tj, ej⟩ := hvals j (by simpa [hvl] using hj)
          have hP' : vals[j]? = some v := by simpa using hP
          cases epj : placeAt (pc j) with
          | none =>
            have e' : v = Value.none := by rw [epj] at ej; simpa [ej, optV] using hP'.symm
            subst e'
            k_steps
            exact CEnd.of (by k_asm) (by k_asm) ⟨_, rfl⟩
          | some y =>
            have e' : v = Value.int y tj := by rw [epj] at ej; simpa [ej, optV] using hP'.symm
            subst e'
            k_steps
            exact CEnd.of (by k_asm) (by k_asm) ⟨_, rfl⟩
        · intro ys hl hy
          have hst := strs_of (n := z) (g := fun j => sideOf here (placeAt (pc j))) (by simpa [hvz] using hl) hy
          have h1 := side_ones (fun j => placeAt (pc j)) here z
          have h2 : ((List.range z).map fun j => sideOf here (placeAt (pc j))).length ≤ 100 := by simp; omega
          k_steps
          rename News _ _ _ _ => N3
          rename Fr _ _ _ _ => F3
          rename Obj.data _ = Data.cell _ => d3
          rename LCg.Off1 _ _ => o3
          exact TEnd.of F3 N3 (LJ2.some epl d3 hwl hws lt3 hoff hown (ne_of_off1 o3))
    · rintro h' tk' m' news' F' N' ⟨rfl, ws, n, oc, vc, rfl, hoc, hwl, hws⟩
      clear F1 N1
      k_steps
      have hvz : vals.length = z := by simpa [has] using hvl
      refine ret1N hret (by k_asm) (news_sub (by k_asm) (fun p hp => ?_)) (fun p hp => Nat.ne_of_lt (ktn_ltOf lt3.2.2 p hp)) ⟨_, ws, n, rfl, rfl, hvz ▸ hws⟩
      rcases List.mem_cons.mp hp with rfl | hp
      · exact List.mem_cons_self ..
      · simp [hp]
end

section
/-! a comprehension of three ranges: the model's turns at each depth -/
section
variable {prog : Program} {w : World} {A : Around} {E : Value → Shared → Prop} {R : Result → Shared → Prop} {s : Shared}
theorem turn3_0 (elt t0 i0 t1 i1 t2 i2 : Expr) (scope : Scope) (pos : Pos) (it acc : Value) (env : Env) :
    compTurn (.ListComp elt [⟨t0, i0, [], 0⟩, ⟨t1, i1, [], 0⟩, ⟨t2, i2, [], 0⟩] scope pos) 0 it acc env = (standAt i0.pos >>= fun _ => pyNext it >>= fun r => match r with
      | none => pure (.done .next)
      | some v => letOwnedTupleGo t0 it v >>= fun _ => assign t0 env v >>= fun _ => eval i1 env >>= fun x => standAt i1.pos >>= fun _ => foldedSetIterable i1 env x >>= fun x =>
        holding [x] (pyIter x) >>= fun it' => runOwn (.compStart (.ListComp elt [⟨t0, i0, [], 0⟩, ⟨t1, i1, [], 0⟩, ⟨t2, i2, [], 0⟩] scope pos) 1 it' acc env) env >>= fun _ =>
          again (.compLoop (.ListComp elt [⟨t0, i0, [], 0⟩, ⟨t1, i1, [], 0⟩, ⟨t2, i2, [], 0⟩] scope pos) 0 it acc env)) := by rfl
theorem turn3_1 (elt t0 i0 t1 i1 t2 i2 : Expr) (scope : Scope) (pos : Pos) (it acc : Value) (env : Env) :
    compTurn (.ListComp elt [⟨t0, i0, [], 0⟩, ⟨t1, i1, [], 0⟩, ⟨t2, i2, [], 0⟩] scope pos) 1 it acc env = (standAt i1.pos >>= fun _ => pyNext it >>= fun r => match r with
      | none => pure (.done .next)
      | some v => letOwnedTupleGo t1 it v >>= fun _ => assign t1 env v >>= fun _ => eval i2 env >>= fun x => standAt i2.pos >>= fun _ => foldedSetIterable i2 env x >>= fun x =>
        holding [x] (pyIter x) >>= fun it' => runOwn (.compStart (.ListComp elt [⟨t0, i0, [], 0⟩, ⟨t1, i1, [], 0⟩, ⟨t2, i2, [], 0⟩] scope pos) 2 it' acc env) env >>= fun _ =>
          again (.compLoop (.ListComp elt [⟨t0, i0, [], 0⟩, ⟨t1, i1, [], 0⟩, ⟨t2, i2, [], 0⟩] scope pos) 1 it acc env)) := by rfl
theorem turn3_2 (elt t0 i0 t1 i1 t2 i2 : Expr) (scope : Scope) (pos : Pos) (it acc : Value) (env : Env) :
    compTurn (.ListComp elt [⟨t0, i0, [], 0⟩, ⟨t1, i1, [], 0⟩, ⟨t2, i2, [], 0⟩] scope pos) 2 it acc env = (standAt i2.pos >>= fun _ => pyNext it >>= fun r => match r with
      | none => pure (.done .next)
      | some v => letOwnedTupleGo t2 it v >>= fun _ => assign t2 env v >>= fun _ => (eval elt env >>= fun x => call (.builtin "list.append") [acc, x] >>= fun _ => pure ()) >>= fun _ =>
          again (.compLoop (.ListComp elt [⟨t0, i0, [], 0⟩, ⟨t1, i1, [], 0⟩, ⟨t2, i2, [], 0⟩] scope pos) 2 it acc env)) := by rfl
/-- a loop whose turn starts the next clause -/
theorem loop_deep {e : Expr} {d : Nat} {t i1 : Expr} {ip : Pos} {it acc : Value} {env : Env} (I : Nat → Shared → Prop)
    (hT : compTurn e d it acc env = (standAt ip >>= fun _ => pyNext it >>= fun r => match r with
      | none => pure (.done .next)
      | some v => letOwnedTupleGo t it v >>= fun _ => assign t env v >>= fun _ => eval i1 env >>= fun x => standAt i1.pos >>= fun _ => foldedSetIterable i1 env x >>= fun x =>
        holding [x] (pyIter x) >>= fun it' => runOwn (.compStart e (d + 1) it' acc env) env >>= fun _ => again (.compLoop e d it acc env)))
    (hq : (Code.compLoop e d it acc env).quiet = true) (hA : A.under (Code.compLoop e d it acc env) = A)
    (hD : (model prog w).den (Code.compLoop e d it acc env) = (compTurn e d it acc env).onRaise (fun x => do noteFrame x env; theTreesLotGoes x))
    (ht : ∀ v, letOwnedTupleGo t it v = pure ()) (hs : ∀ x, foldedSetIterable i1 env x = pure x)
    (turn : ∀ n s, I n s → wpAny (model prog w) A (pyNext it) (fun r s₁ => match r with
      | none => R (.ok .next) s₁
      | some v => wpAny (model prog w) A (assign t env v) (fun _ s₂ => wpAny (model prog w) A (eval i1 env) (fun x s₃ => wpAny (model prog w) A (pyIter x) (fun it' s₄ =>
          codeAny (model prog w) A (.compStart e (d + 1) it' acc env) (fun r s₅ => r = .ok .next ∧ ∃ m, m < n ∧ I m s₅) s₄)
          (notedBy (model prog w) A env fun e s' => R (.error e) s') s₃) (notedBy (model prog w) A env fun e s' => R (.error e) s') s₂) (notedBy (model prog w) A env fun e s' => R (.error e) s') s₁) (notedBy (model prog w) A env fun e s' => R (.error e) s') s)
    (n : Nat) (h : I n s) : codeAny (model prog w) A (.compLoop e d it acc env) R s := by
  refine codeAny_loop hq I (fun n s hI => ?_) n h
  rw [hA, hD]
  refine wpAny_noted ?_
  rw [hT]
  refine wpAny_bind (wpAny_standAt (wpAny_bind (wpAny_mono (turn n s hI) (fun r s₁ h₁ => ?_) fun _ _ h' => h')))
  cases r with
  | none => exact wpAny_pure h₁
  | some v =>
    refine wpAny_bind (wpAny_of_eq (ht v) ?_)
    refine wpAny_bind (wpAny_mono h₁ (fun _ s₂ h₂ => wpAny_bind (wpAny_mono h₂ (fun x s₃ h₃ => wpAny_bind (wpAny_standAt (wpAny_bind (wpAny_of_eq (hs x) ?_)))) fun _ _ h' => h')) fun _ _ h' => h')
    refine wpAny_bind (wpAny_holding (wpAny_mono h₃ (fun it' s₄ h₄ => wpAny_bind (wpAny_runOwn (codeAny_mono h₄ fun r s₅ h₅ => ?_))) fun _ _ h' => h'))
    obtain ⟨rfl, hm⟩ := h₅
    exact wpAny_pure ⟨rfl, hm⟩
theorem start3_1 {elt t0 i0 t1 i1 t2 i2 : Expr} {scope : Scope} {pos : Pos} {it acc : Value} {env : Env}
    (h0 : codeAny (model prog w) A (.compLoop (.ListComp elt [⟨t0, i0, [], 0⟩, ⟨t1, i1, [], 0⟩, ⟨t2, i2, [], 0⟩] scope pos) 1 it acc env) R s)
    (h : wpAny (model prog w) A (pyIter it) (fun it' s' => codeAny (model prog w) A (.compLoop (.ListComp elt [⟨t0, i0, [], 0⟩, ⟨t1, i1, [], 0⟩, ⟨t2, i2, [], 0⟩] scope pos) 1 it' acc env) R s')
      (notedBy (model prog w) A env fun x s' => R (.error x) s') s) :
    codeAny (model prog w) A (.compStart (.ListComp elt [⟨t0, i0, [], 0⟩, ⟨t1, i1, [], 0⟩, ⟨t2, i2, [], 0⟩] scope pos) 1 it acc env) R s := by
  refine codeAny_of_tree ?_
  show wpAny _ A ((compStart (.ListComp elt [⟨t0, i0, [], 0⟩, ⟨t1, i1, [], 0⟩, ⟨t2, i2, [], 0⟩] scope pos) 1 it acc env).onRaise (fun x => do noteFrame x env; standAt theWindowsPlace)) _ _ s
  refine wpAny_notedAt ?_
  unfold compStart
  show wpAny _ _ (ask >>= _) _ _ s
  refine wpAny_bind (wpAny_askSetting (wpAny_ite ?_))
  split
  · first
      | exact wpAny_bind (wpAny_pure (wpAny_pure (And.intro rfl h0)))
      | exact wpAny_pure (And.intro rfl h0)
  · refine wpAny_bind (wpAny_rule ?_)
    show wpAny _ _ (standAt i1.pos >>= _) _ _ s
    exact wpAny_bind (wpAny_standAt (wpAny_bind (wpAny_mono h (fun it' s' h' => wpAny_pure (And.intro rfl h')) fun _ _ x => x)))
theorem start3_2 {elt t0 i0 t1 i1 t2 i2 : Expr} {scope : Scope} {pos : Pos} {it acc : Value} {env : Env}
    (h0 : codeAny (model prog w) A (.compLoop (.ListComp elt [⟨t0, i0, [], 0⟩, ⟨t1, i1, [], 0⟩, ⟨t2, i2, [], 0⟩] scope pos) 2 it acc env) R s)
    (h : wpAny (model prog w) A (pyIter it) (fun it' s' => codeAny (model prog w) A (.compLoop (.ListComp elt [⟨t0, i0, [], 0⟩, ⟨t1, i1, [], 0⟩, ⟨t2, i2, [], 0⟩] scope pos) 2 it' acc env) R s')
      (notedBy (model prog w) A env fun x s' => R (.error x) s') s) :
    codeAny (model prog w) A (.compStart (.ListComp elt [⟨t0, i0, [], 0⟩, ⟨t1, i1, [], 0⟩, ⟨t2, i2, [], 0⟩] scope pos) 2 it acc env) R s := by
  refine codeAny_of_tree ?_
  show wpAny _ A ((compStart (.ListComp elt [⟨t0, i0, [], 0⟩, ⟨t1, i1, [], 0⟩, ⟨t2, i2, [], 0⟩] scope pos) 2 it acc env).onRaise (fun x => do noteFrame x env; standAt theWindowsPlace)) _ _ s
  refine wpAny_notedAt ?_
  unfold compStart
  show wpAny _ _ (ask >>= _) _ _ s
  refine wpAny_bind (wpAny_askSetting (wpAny_ite ?_))
  split
  · first
      | exact wpAny_bind (wpAny_pure (wpAny_pure (And.intro rfl h0)))
      | exact wpAny_pure (And.intro rfl h0)
  · refine wpAny_bind (wpAny_rule ?_)
    show wpAny _ _ (standAt i2.pos >>= _) _ _ s
    exact wpAny_bind (wpAny_standAt (wpAny_bind (wpAny_mono h (fun it' s' h' => wpAny_pure (And.intro rfl h')) fun _ _ x => x)))
theorem loop_last {elt t0 i0 t1 i1 t2 i2 : Expr} {scope : Scope} {pos : Pos} {it acc : Value} {env : Env} (I : Nat → Shared → Prop)
    (ht : ∀ v, letOwnedTupleGo t2 it v = pure ())
    (turn : ∀ n s, I n s → wpAny (model prog w) A (pyNext it) (fun r s₁ => match r with
      | none => R (.ok .next) s₁
      | some v => wpAny (model prog w) A (assign t2 env v) (fun _ s₂ => wpAny (model prog w) A (eval elt env) (fun x s₃ =>
          wpAny (model prog w) A (call (.builtin "list.append") [acc, x]) (fun _ s₄ => ∃ m, m < n ∧ I m s₄) (notedBy (model prog w) A env fun e s' => R (.error e) s') s₃)
          (notedBy (model prog w) A env fun e s' => R (.error e) s') s₂) (notedBy (model prog w) A env fun e s' => R (.error e) s') s₁) (notedBy (model prog w) A env fun e s' => R (.error e) s') s)
    (n : Nat) (h : I n s) : codeAny (model prog w) A (.compLoop (.ListComp elt [⟨t0, i0, [], 0⟩, ⟨t1, i1, [], 0⟩, ⟨t2, i2, [], 0⟩] scope pos) 2 it acc env) R s := by
  refine codeAny_loop rfl I (fun n s hI => ?_) n h
  show wpAny _ A ((compTurn (.ListComp elt [⟨t0, i0, [], 0⟩, ⟨t1, i1, [], 0⟩, ⟨t2, i2, [], 0⟩] scope pos) 2 it acc env).onRaise (fun x => do noteFrame x env; theTreesLotGoes x)) _ _ s
  refine wpAny_noted ?_
  rw [turn3_2]
  refine wpAny_bind (wpAny_standAt (wpAny_bind (wpAny_mono (turn n s hI) (fun r s₁ h₁ => ?_) fun _ _ h' => h')))
  cases r with
  | none => exact wpAny_pure h₁
  | some v =>
    refine wpAny_bind (wpAny_of_eq (ht v) ?_)
    exact wpAny_bind (wpAny_mono h₁ (fun _ s₂ h₂ => wpAny_bind (wpAny_bind (wpAny_mono h₂ (fun x s₃ h₃ => wpAny_bind (wpAny_mono h₃
      (fun _ s₄ h₄ => wpAny_pure (wpAny_pure ⟨rfl, h₄⟩)) fun _ _ h' => h')) fun _ _ h' => h'))) fun _ _ h' => h')
end
open PyProof.Rows.LCg
def rit (x left : Int) : Obj := { cls := .type "range_iterator", data := .fields #[rawInt x, rawInt left, rawInt 1] }
/-- where a clause's loop stands: its iterator, the comprehension's names, the rest of the ledger -/
def Lay (h₀ : Heap) (L : Addr) (m : Str → Option Value) (C I : Addr) (o : Obj) (J : (Str → Option Value) → Led → Prop) (s₀ s' : Shared) : Prop :=
  ∃ h tk m2 oC rest, s' = { s₀ with heap := h, toks := tk } ∧ Fr h₀ L h m ∧ NsObj oC m2 ∧ News h₀ L h ((I, o) :: (C, oC) :: rest) ∧ (∀ p ∈ rest, p.1 ≠ C ∧ p.1 ≠ I) ∧ J m2 rest
/-- behind a clause's loop -/
def LayFin (h₀ : Heap) (L : Addr) (m : Str → Option Value) (C : Addr) (J : (Str → Option Value) → Led → Prop) (s₀ s' : Shared) : Prop :=
  ∃ h tk m2 oC rest, s' = { s₀ with heap := h, toks := tk } ∧ Fr h₀ L h m ∧ NsObj oC m2 ∧ News h₀ L h ((C, oC) :: rest) ∧ (∀ p ∈ rest, p.1 ≠ C) ∧ J m2 rest
section
variable {prog : Program} {w : World} {A : Around} {E E' : Value → Shared → Prop} {R : Result → Shared → Prop} {s₀ : Shared} {h₀ : Heap} {L C I : Addr} {m : Str → Option Value} {env : Env} {scope : Scope} {cl : List (Str × Addr)} {x : Str} {px : Pos}
theorem lay_turn {lo : Int} {n : Nat} {J : Nat → (Str → Option Value) → Led → Prop} (B : (Unit → Shared → Prop) → Shared → Prop) (hh : A.handled = none) (hIC : I ≠ C) (hkind : scope.kind = .function) (hx : scope.names.lookup x = some .local)
    (body : ∀ i t h tk m2 oC rest (Q : Unit → Shared → Prop), i < n → J i m2 rest → NsObj oC (fun y => if y = x then some (.int (lo + (i : Int)) t) else m2 y) → Fr h₀ L h m →
      News h₀ L h ((I, rit (lo + ((i + 1 : Nat) : Int)) ((n : Int) - ((i + 1 : Nat) : Int))) :: (C, oC) :: rest) → (∀ p ∈ rest, p.1 ≠ C ∧ p.1 ≠ I) →
      (∀ s', Lay h₀ L m C I (rit (lo + ((i + 1 : Nat) : Int)) ((n : Int) - ((i + 1 : Nat) : Int))) (J (i + 1)) s₀ s' → Q () s') → B Q { s₀ with heap := h, toks := tk })
    (fin : ∀ s', LayFin h₀ L m C (J n) s₀ s' → R (.ok .next) s') :
    ∀ k s, (∃ i, k = n - i ∧ i ≤ n ∧ Lay h₀ L m C I (rit (lo + (i : Int)) ((n : Int) - (i : Int))) (J i) s₀ s) →
      wpAny (model prog w) A (pyNext (.ref I)) (fun r s₁ => match r with
        | none => R (.ok .next) s₁
        | some v => wpAny (model prog w) A (assign (.Name x px) (compEnvC scope cl C env) v) (fun _ s₂ => B (fun _ s₄ => ∃ m', m' < k ∧ ∃ i, m' = n - i ∧ i ≤ n ∧ Lay h₀ L m C I (rit (lo + (i : Int)) ((n : Int) - (i : Int))) (J i) s₀ s₄) s₂) E' s₁) E s := by
  rintro k s ⟨i, rfl, hi, h, tk, m2, oC, rest, rfl, F, hC, N, off, hJ⟩
  have zI := N (I, _) (List.mem_cons_self ..)
  have zC := N (C, oC) (List.mem_cons_of_mem _ (List.mem_cons_self ..))
  have hW := Walks.range (prog := prog) (w := w) hh I lo 1 n
  have hst : IsRangeIter h I (lo + (i : Nat) * 1) ((n : Int) - (i : Nat)) 1 := by
    show h.get? I = some _
    rw [Int.mul_one]; exact zI.1
  by_cases hlt : i < n
  · refine hW.item i _ _ _ hlt hst fun v h₂ tk₂ hPv hst₂ hk₂ => ?_
    obtain ⟨t, rfl⟩ := hPv
    rw [Int.mul_one]
    refine wpAny_assign_Name (wpAny_storeName_local (lookup_relabel_local hx) ((hC.ns zC.1).at' fun o e => hk₂ _ o (by simpa using Ne.symm hIC) e) (fun h₃ hn₃ hs₃ => ?_) (by simp [compEnvC, relabel, hkind]))
    obtain ⟨oC', heC, hoC⟩ := ns_obj hn₃
    have F₃ : Fr h₀ L h₃ m := (fr_but F hk₂ (Ne.symm zI.2.1) zI.2.2).change hs₃ zC.2.1 zC.2.2
    have N₃ : News h₀ L h₃ ((I, rit (lo + ((i + 1 : Nat) : Int)) ((n : Int) - ((i + 1 : Nat) : Int))) :: (C, oC') :: rest) := fun p hp => by
      rcases List.mem_cons.mp hp with rfl | hp
      · refine ⟨hs₃.extBut _ _ hIC ?_, zI.2⟩
        have q : h₂.get? I = some _ := hst₂
        rw [Int.mul_one] at q; exact q
      · rcases List.mem_cons.mp hp with rfl | hp
        · exact ⟨heC, zC.2⟩
        · have z := N p (List.mem_cons_of_mem _ (List.mem_cons_of_mem _ hp))
          exact ⟨hs₃.extBut _ _ (off p hp).1 (hk₂ _ _ (by simpa using (off p hp).2) z.1), z.2⟩
    exact body i t h₃ _ m2 oC' rest _ hlt hJ hoC F₃ N₃ off fun s' hs' => ⟨n - (i + 1), by omega, i + 1, rfl, hlt, hs'⟩
  · obtain rfl : i = n := Nat.le_antisymm hi (Nat.not_lt.mp hlt)
    refine hW.done _ _ _ hst fun h₂ tk₂ hk₂ => ?_
    refine fin _ ⟨h₂, tk₂, m2, oC, rest, rfl, fr_but F hk₂ (Ne.symm zI.2.1) zI.2.2, hC, fun p hp => ?_, fun p hp => (off p hp).1, hJ⟩
    have z := N p (List.mem_cons_of_mem _ hp)
    refine ⟨hk₂ _ _ ?_ z.1, z.2⟩
    rcases List.mem_cons.mp hp with rfl | hp
    · simpa using Ne.symm hIC
    · simpa using (off p hp).2
end
end

section
open PyProof.Rows.LCg
/-! _law_threes -/
abbrev Tri := Nat × Nat × Nat
abbrev tupI (q : Tri) (t0 t1 t2 : Tok) : Obj := { cls := .type "tuple", data := .seq #[.int (q.1 : Int) t0, .int (q.2.1 : Int) t1, .int (q.2.2 : Int) t2] }
def T2 (i j k : Nat) : List Tri := (List.range k).map fun c => (i, j, j + 1 + c)
def T1 (z i j : Nat) : List Tri := (List.range j).flatMap fun b => T2 i (i + 1 + b) (z - (i + 1 + b + 1))
def T0 (z i : Nat) : List Tri := (List.range i).flatMap fun a => T1 z a (z - (a + 1))
theorem T2_succ (i j k : Nat) : T2 i j (k + 1) = T2 i j k ++ [(i, j, j + 1 + k)] := by simp [T2, List.range_succ]
theorem T1_succ (z i j : Nat) : T1 z i (j + 1) = T1 z i j ++ T2 i (i + 1 + j) (z - (i + 1 + j + 1)) := by simp [T1, List.range_succ]
theorem T0_succ (z i : Nat) : T0 z (i + 1) = T0 z i ++ T1 z i (z - (i + 1)) := by simp [T0, List.range_succ]
/-- the made list and its triples stand in the ledger -/
def Trips (D : Addr) (news : Led) (ts : List Tri) (r : Led) : Prop :=
  ∃ (as : List Addr) (tl : Led), r = (D, lst (as.map Value.ref)) :: (tl ++ news) ∧ as.length = ts.length ∧ (∀ (j : Nat) (q : Tri), ts[j]? = some q → ∃ a t0 t1 t2, as[j]? = some a ∧ (a, tupI q t0 t1 t2) ∈ tl) ∧
    (∀ p ∈ tl, p.1 ≠ D) ∧ (∀ q ∈ news, q.1 ≠ D) ∧ ∀ q ∈ news, ∀ p ∈ tl, q.1 ≠ p.1
theorem small_le {a b : Int} (ha : 0 ≤ a) (ha' : a ≤ 100) (hb : 0 ≤ b) (hb' : b ≤ 100) : Builtin.Range.small a b 1 = true := by
  unfold Builtin.Range.small
  rw [rangeSize_one]
  simp [Builtin.Range.rangeFitsLong]
  split <;> omega
theorem push_iter {h₀ : Heap} {L : Addr} {m : Str → Option Value} {s : Shared} {news : Led} {o : Obj} (F : Fr h₀ L s.heap m) (N : News h₀ L s.heap news) (ho : o.isFreed = false) :
    Fr h₀ L (s.heap.push o) m ∧ News h₀ L (s.heap.push o) ((s.heap.objs.size, o) :: news) ∧ ∀ p ∈ news, p.1 ≠ s.heap.objs.size := by
  refine ⟨F.push _, fun p hp => ?_, fun p hp => Nat.ne_of_lt (Heap.lt_size (N p hp).1)⟩
  rcases List.mem_cons.mp hp with rfl | hp
  · exact ⟨Heap.get?_push_size _ ho, Ne.symm (Nat.ne_of_lt F.ns.lt), next_is_new F⟩
  · exact ⟨Heap.get?_push_of_some _ (N p hp).1, (N p hp).2⟩
section
variable {prog : Program} {w : World} {A : Around} {s₀ : Shared} {h₀ : Heap} {L C D : Addr} {m : Str → Option Value} {env : Env} {scope : Scope} {cl : List (Str × Addr)} {elt e0 e1 e2 : Expr} {x0 x1 x2 : Str} {p0 p1 p2 pos : Pos} {news : Led} {z : Nat}
/-- what the three expressions do, in any state of the comprehension -/
structure Three (prog : Program) (w : World) (A : Around) (s₀ : Shared) (h₀ : Heap) (L C : Addr) (m : Str → Option Value) (cenv : Env) (elt e1 e2 : Expr) (x0 x1 x2 : Str) (news : Led) (z : Nat) : Prop where
  it1 : ∀ (i : Nat) t h tk m2 oC I o rest E, i < z → NsObj oC m2 → m2 x0 = some (.int (i : Int) t) → Fr h₀ L h m → News h₀ L h ((I, o) :: (C, oC) :: rest) → (∀ p ∈ news, p ∈ (I, o) :: (C, oC) :: rest) →
    wpAny (model prog w) A (eval e1 cenv) (fun y s' => ∃ r h' tk' u v t', y = .ref r ∧ s' = { s₀ with heap := h', toks := tk' } ∧ Fr h₀ L h' m ∧ News h₀ L h' ((I, o) :: (C, oC) :: rest) ∧ IsRange h' r ((i + 1 : Nat) : Int) (z : Int) 1 u v t') E { s₀ with heap := h, toks := tk }
  it2 : ∀ (j : Nat) t h tk m2 oC I o rest E, j < z → NsObj oC m2 → m2 x1 = some (.int (j : Int) t) → Fr h₀ L h m → News h₀ L h ((I, o) :: (C, oC) :: rest) → (∀ p ∈ news, p ∈ (I, o) :: (C, oC) :: rest) →
    wpAny (model prog w) A (eval e2 cenv) (fun y s' => ∃ r h' tk' u v t', y = .ref r ∧ s' = { s₀ with heap := h', toks := tk' } ∧ Fr h₀ L h' m ∧ News h₀ L h' ((I, o) :: (C, oC) :: rest) ∧ IsRange h' r ((j + 1 : Nat) : Int) (z : Int) 1 u v t') E { s₀ with heap := h, toks := tk }
  el : ∀ (q : Tri) t0 t1 t2 h tk m2 oC I o rest E, NsObj oC m2 → m2 x0 = some (.int (q.1 : Int) t0) → m2 x1 = some (.int (q.2.1 : Int) t1) → m2 x2 = some (.int (q.2.2 : Int) t2) → Fr h₀ L h m → News h₀ L h ((I, o) :: (C, oC) :: rest) →
    wpAny (model prog w) A (eval elt cenv) (fun y s' => ∃ a u0 u1 u2 h' tk', y = .ref a ∧ s' = { s₀ with heap := h', toks := tk' } ∧ Fr h₀ L h' m ∧ News h₀ L h' ((a, tupI q u0 u1 u2) :: (I, o) :: (C, oC) :: rest) ∧ ∀ p ∈ (I, o) :: (C, oC) :: rest, p.1 ≠ a) E { s₀ with heap := h, toks := tk }
def K2 (D : Addr) (news : Led) (x0 x1 : Str) (I0 I1 : Addr) (o0 o1 : Obj) (i j : Nat) (base : List Tri) (k : Nat) (m2 : Str → Option Value) (rest : Led) : Prop :=
  (∃ t, m2 x0 = some (.int (i : Int) t)) ∧ (∃ t, m2 x1 = some (.int (j : Int) t)) ∧ ∃ r, rest = (I1, o1) :: (I0, o0) :: r ∧ (∀ p ∈ r, p.1 ≠ I0 ∧ p.1 ≠ I1) ∧ Trips D news (base ++ T2 i j k) r
theorem lvl2 (T : Three prog w A s₀ h₀ L C m (compEnvC scope cl C env) elt e1 e2 x0 x1 x2 news z) (hh : A.handled = none) (hkind : scope.kind = .function) (hx : scope.names.lookup x2 = some .local) (d0 : x0 ≠ x2) (d1 : x1 ≠ x2)
    {I0 I1 I2 : Addr} {o0 o1 : Obj} {i j : Nat} {base : List Tri} (hb : base.length ≤ 1000) (hIC : I2 ≠ C) (h0D : I0 ≠ D) (h1D : I1 ≠ D) (hz : z ≤ 100) {s : Shared}
    (hs : Lay h₀ L m C I2 (rit (((j + 1 : Nat) : Int) + ((0 : Nat) : Int)) (((z - (j + 1) : Nat) : Int) - ((0 : Nat) : Int))) (K2 D news x0 x1 I0 I1 o0 o1 i j base 0) s₀ s) :
    codeAny (model prog w) A (.compStart (.ListComp elt [⟨.Name x0 p0, e0, [], 0⟩, ⟨.Name x1 p1, e1, [], 0⟩, ⟨.Name x2 p2, e2, [], 0⟩] scope pos) 2 (.ref I2) (.ref D) (compEnvC scope cl C env))
      (fun r s₅ => r = .ok .next ∧ LayFin h₀ L m C (K2 D news x0 x1 I0 I1 o0 o1 i j base (z - (j + 1))) s₀ s₅) s := by
  let RR : Result → Shared → Prop := fun r s₅ => r = .ok .next ∧ LayFin h₀ L m C (K2 D news x0 x1 I0 I1 o0 o1 i j base (z - (j + 1))) s₀ s₅
  let EE : Value → Shared → Prop := notedBy (model prog w) A (compEnvC scope cl C env) fun e s' => RR (.error e) s'
  have loop : codeAny (model prog w) A (.compLoop (.ListComp elt [⟨.Name x0 p0, e0, [], 0⟩, ⟨.Name x1 p1, e1, [], 0⟩, ⟨.Name x2 p2, e2, [], 0⟩] scope pos) 2 (.ref I2) (.ref D) (compEnvC scope cl C env)) RR s := by
    refine loop_last (R := RR) (fun k s' => ∃ i', k = z - (j + 1) - i' ∧ i' ≤ z - (j + 1) ∧ Lay h₀ L m C I2 (rit (((j + 1 : Nat) : Int) + (i' : Int)) (((z - (j + 1) : Nat) : Int) - (i' : Int))) (K2 D news x0 x1 I0 I1 o0 o1 i j base i') s₀ s') (fun _ => rfl) (lay_turn (R := RR) (E := EE) (E' := EE) (lo := ((j + 1 : Nat) : Int)) (n := z - (j + 1)) (J := K2 D news x0 x1 I0 I1 o0 o1 i j base) (x := x2) (px := p2) (scope := scope) (cl := cl) (env := env)
      (fun Q s₂ => wpAny (model prog w) A (eval elt (compEnvC scope cl C env)) (fun x s₃ => wpAny (model prog w) A (call (.builtin "list.append") [.ref D, x]) (fun _ s₄ => Q () s₄) EE s₃) EE s₂) hh hIC hkind hx ?_ (fun s' h => ⟨rfl, h⟩)) (z - (j + 1) - 0) ⟨0, rfl, Nat.zero_le _, hs⟩
    rintro k t h tk m2 oC rest Q hk ⟨⟨ti, hi⟩, ⟨tj, hj⟩, r, rfl, hr01, as, tl, rfl, hlen, hall, hnD, hnD', hnn⟩ hC F N off hQ
    have hDI := off (D, lst (as.map Value.ref)) (by simp)
    refine wpAny_mono (T.el (i, j, j + 1 + k) ti tj t h tk _ oC I2 _ _ _ hC (by simpa [d0] using hi) (by simpa [d1] using hj) (by simp) F N) (fun y s₃ h₃ => ?_) fun _ _ e => e
    obtain ⟨a, u0, u1, u2, h', tk', rfl, rfl, F', N', ne⟩ := h₃
    have hDa := ne (D, lst (as.map Value.ref)) (by simp)
    refine append_led F' N' (D := D) (its := (as.map Value.ref).toArray) (n := (as.map Value.ref).length) (by simp) (fun h₅ F₅ N₅ => ?_) ?_
    · refine hQ _ ⟨h₅, tk', _, oC, (I1, o1) :: (I0, o0) :: (D, lst ((as ++ [a]).map Value.ref)) :: (((a, tupI (i, j, j + 1 + k) u0 u1 u2) :: tl) ++ news), rfl, F₅, hC, ?_, ?_, ?_⟩
      · have el : W.listOf ((as.map Value.ref).toArray.push (.ref a)) ((as.map Value.ref).length + 1) = lst ((as ++ [a]).map Value.ref) := by simp [lst]
        rw [el] at N₅
        refine news_sub N₅ fun p hp => ?_
        simp only [List.mem_cons, List.mem_append, List.cons_append] at hp
        rcases hp with rfl | rfl | rfl | rfl | rfl | rfl | hp | hp
        · exact updL_mem (by simp) (fun e => hDI.2 e.symm)
        · exact updL_mem (by simp) (fun e => hDI.1 e.symm)
        · exact updL_mem (by simp) h1D
        · exact updL_mem (by simp) h0D
        · exact updL_new (o := lst (as.map Value.ref)) (by simp)
        · exact updL_mem (by simp) (Ne.symm hDa)
        · exact updL_mem (by simp [hp]) (hnD p hp)
        · exact updL_mem (by simp [hp]) (hnD' p hp)
      · intro p hp
        simp only [List.mem_cons, List.mem_append, List.cons_append] at hp
        rcases hp with rfl | rfl | rfl | rfl | hp | hp
        · exact off _ (by simp)
        · exact off _ (by simp)
        · exact hDI
        · exact ⟨fun e => ne (C, oC) (by simp) e.symm, fun e => ne (I2, _) (List.mem_cons_self ..) e.symm⟩
        · exact off _ (by simp [hp])
        · exact off _ (by simp [hp])
      · refine ⟨⟨ti, by simpa [d0] using hi⟩, ⟨tj, by simpa [d1] using hj⟩, _, rfl, ?_, as ++ [a], (a, tupI (i, j, j + 1 + k) u0 u1 u2) :: tl, rfl, by simp [T2_succ, hlen, Nat.add_assoc], ?_, ?_, ?_, ?_⟩
        · intro p hp
          simp only [List.mem_cons, List.mem_append, List.cons_append] at hp
          rcases hp with rfl | rfl | hp | hp
          · exact hr01 (D, lst (as.map Value.ref)) (by simp)
          · exact ⟨fun e => ne (I0, o0) (by simp) e.symm, fun e => ne (I1, o1) (by simp) e.symm⟩
          · exact hr01 p (by simp [hp])
          · exact hr01 p (by simp [hp])
        · intro jj q hq
          rw [T2_succ, ← List.append_assoc] at hq
          by_cases hjj : jj < (base ++ T2 i j k).length
          · rw [List.getElem?_append_left hjj] at hq
            obtain ⟨a', t0, t1, t2, e1, e2⟩ := hall jj q hq
            exact ⟨a', t0, t1, t2, by rw [List.getElem?_append_left (by omega)]; exact e1, List.mem_cons_of_mem _ e2⟩
          · rw [List.getElem?_append_right (by omega)] at hq
            have e0 : jj - (base ++ T2 i j k).length = 0 := by
              by_cases e : jj - (base ++ T2 i j k).length = 0
              · exact e
              · rw [List.getElem?_eq_none (by rw [List.length_singleton]; lia)] at hq; cases hq
            rw [e0] at hq
            simp at hq
            subst hq
            exact ⟨a, u0, u1, u2, by rw [List.getElem?_append_right (by omega), hlen, e0]; rfl, List.mem_cons_self ..⟩
        · intro p hp
          rcases List.mem_cons.mp hp with rfl | hp
          · exact Ne.symm hDa
          · exact hnD p hp
        · exact hnD'
        · intro q hq p hp
          rcases List.mem_cons.mp hp with rfl | hp
          · exact ne q (by simp [hq])
          · exact hnn q hq p hp
    · simp [sizeLine, hlen, T2]; omega
  have hW := Walks.range (prog := prog) (w := w) hh I2 (((j + 1 : Nat) : Int)) 1 (z - (j + 1))
  refine start3_2 loop (hW.self 0 _ _ _ ?_ loop)
  obtain ⟨h, tk, m2, oC, rest, rfl, F, hC, N, off, hJ⟩ := hs
  have q := (N (I2, _) (List.mem_cons_self ..)).1
  show h.get? I2 = some _
  rw [Int.mul_one]; exact q
def K1 (D : Addr) (news : Led) (z : Nat) (x0 : Str) (I0 : Addr) (o0 : Obj) (i : Nat) (base : List Tri) (k : Nat) (m2 : Str → Option Value) (rest : Led) : Prop :=
  (∃ t, m2 x0 = some (.int (i : Int) t)) ∧ ∃ r, rest = (I0, o0) :: r ∧ (∀ p ∈ r, p.1 ≠ I0) ∧ Trips D news (base ++ T1 z i k) r
theorem Trips.sub {D : Addr} {news : Led} {ts : List Tri} {r : Led} (h : Trips D news ts r) : ∀ p ∈ news, p ∈ r := by
  obtain ⟨as, tl, rfl, _⟩ := h
  intro p hp
  simp [hp]
theorem Trips.len {D : Addr} {news : Led} {ts : List Tri} {r : Led} (h : Trips D news ts r) : ∃ o, (D, o) ∈ r := by
  obtain ⟨as, tl, rfl, _⟩ := h
  exact ⟨_, List.mem_cons_self ..⟩
theorem rit_of {j z : Nat} (h : j < z) : ({ cls := .type "range_iterator", data := .fields #[rawInt ((j + 1 : Nat) : Int), rawInt (Builtin.Range.rangeSize ((j + 1 : Nat) : Int) (z : Int) 1), rawInt 1] } : Obj) =
    rit (((j + 1 : Nat) : Int) + ((0 : Nat) : Int)) (((z - (j + 1) : Nat) : Int) - ((0 : Nat) : Int)) := by
  have e1 : Builtin.Range.rangeSize ((j + 1 : Nat) : Int) (z : Int) 1 = ((z - (j + 1) : Nat) : Int) := by
    rw [rangeSize_one]; split <;> omega
  rw [e1, rit]; simp
theorem lvl1 (T : Three prog w A s₀ h₀ L C m (compEnvC scope cl C env) elt e1 e2 x0 x1 x2 news z) (hh : A.handled = none) (hkind : scope.kind = .function) (hx1 : scope.names.lookup x1 = some .local) (hx : scope.names.lookup x2 = some .local) (d0 : x0 ≠ x2) (d1 : x1 ≠ x2) (d01 : x0 ≠ x1)
    (hs2 : ∀ x, foldedSetIterable e2 (compEnvC scope cl C env) x = pure x)
    {I0 I1 : Addr} {o0 : Obj} {i : Nat} {base : List Tri} (hb : base.length ≤ 500) (hT : (T1 z i (z - (i + 1))).length ≤ 500) (hIC : I1 ≠ C) (h01 : I0 ≠ I1) (h0D : I0 ≠ D) (hz : z ≤ 100) (hiz : i < z) {s : Shared}
    (hs : Lay h₀ L m C I1 (rit (((i + 1 : Nat) : Int) + ((0 : Nat) : Int)) (((z - (i + 1) : Nat) : Int) - ((0 : Nat) : Int))) (K1 D news z x0 I0 o0 i base 0) s₀ s) :
    codeAny (model prog w) A (.compStart (.ListComp elt [⟨.Name x0 p0, e0, [], 0⟩, ⟨.Name x1 p1, e1, [], 0⟩, ⟨.Name x2 p2, e2, [], 0⟩] scope pos) 1 (.ref I1) (.ref D) (compEnvC scope cl C env))
      (fun r s₅ => r = .ok .next ∧ LayFin h₀ L m C (K1 D news z x0 I0 o0 i base (z - (i + 1))) s₀ s₅) s := by
  let RR : Result → Shared → Prop := fun r s₅ => r = .ok .next ∧ LayFin h₀ L m C (K1 D news z x0 I0 o0 i base (z - (i + 1))) s₀ s₅
  let EE : Value → Shared → Prop := notedBy (model prog w) A (compEnvC scope cl C env) fun e s' => RR (.error e) s'
  have loop : codeAny (model prog w) A (.compLoop (.ListComp elt [⟨.Name x0 p0, e0, [], 0⟩, ⟨.Name x1 p1, e1, [], 0⟩, ⟨.Name x2 p2, e2, [], 0⟩] scope pos) 1 (.ref I1) (.ref D) (compEnvC scope cl C env)) RR s := by
    refine loop_deep (R := RR) (fun k s' => ∃ i', k = z - (i + 1) - i' ∧ i' ≤ z - (i + 1) ∧ Lay h₀ L m C I1 (rit (((i + 1 : Nat) : Int) + (i' : Int)) (((z - (i + 1) : Nat) : Int) - (i' : Int))) (K1 D news z x0 I0 o0 i base i') s₀ s') (turn3_1 ..) rfl rfl rfl (fun _ => rfl) hs2
      (lay_turn (R := RR) (E := EE) (E' := EE) (lo := ((i + 1 : Nat) : Int)) (n := z - (i + 1)) (J := K1 D news z x0 I0 o0 i base) (x := x1) (px := p1) (scope := scope) (cl := cl) (env := env)
      (fun Q s₂ => wpAny (model prog w) A (eval e2 (compEnvC scope cl C env)) (fun x s₃ => wpAny (model prog w) A (pyIter x) (fun it' s₄ => codeAny (model prog w) A (.compStart (.ListComp elt [⟨.Name x0 p0, e0, [], 0⟩, ⟨.Name x1 p1, e1, [], 0⟩, ⟨.Name x2 p2, e2, [], 0⟩] scope pos) 2 it' (.ref D) (compEnvC scope cl C env)) (fun r s₅ => r = .ok .next ∧ Q () s₅) s₄) EE s₃) EE s₂) hh hIC hkind hx1 ?_ (fun s' h => ⟨rfl, h⟩)) (z - (i + 1) - 0) ⟨0, rfl, Nat.zero_le _, hs⟩
    rintro k t h tk m2 oC rest Q hk ⟨⟨ti, hi⟩, r, rfl, hr0, hTr⟩ hC F N off hQ
    generalize rit (((i + 1 : Nat) : Int) + ((k + 1 : Nat) : Int)) (((z - (i + 1) : Nat) : Int) - ((k + 1 : Nat) : Int)) = o1 at N hQ
    have hj : i + 1 + k < z := by omega
    have ej : ((i + 1 : Nat) : Int) + (k : Int) = ((i + 1 + k : Nat) : Int) := by push_cast; rfl
    rw [ej] at hC
    refine wpAny_mono (T.it2 (i + 1 + k) t h tk _ oC I1 _ _ _ hj hC (by simp) F N (fun p hp => by simp [hTr.sub p hp])) (fun y s₃ h₃ => ?_) fun _ _ e => e
    obtain ⟨r', h', tk', u, v, t', rfl, rfl, F', N', hr⟩ := h₃
    refine wpAny_pyIter_range hr (small_le (by omega) (by omega) (by omega) (by omega)) ?_
    obtain ⟨F₂, N₂, off₂⟩ := push_iter (s := { s₀ with heap := h', toks := tk' }) F' N' (o := { cls := .type "range_iterator", data := .fields #[rawInt ((i + 1 + k + 1 : Nat) : Int), rawInt (Builtin.Range.rangeSize ((i + 1 + k + 1 : Nat) : Int) (z : Int) 1), rawInt 1] }) rfl
    obtain ⟨oD, hoD⟩ := hTr.len
    have h1D : I1 ≠ D := fun e => (off (D, oD) (by simp [hoD])).2 e.symm
    have hT' : T1 z i k = T1 z i k ++ T2 i (i + 1 + k) 0 := by simp [T2]
    have hbl : (base ++ T1 z i k).length ≤ 1000 := by
      have : (T1 z i k).length ≤ (T1 z i (z - (i + 1))).length := by
        unfold T1
        rw [List.length_flatMap, List.length_flatMap]
        have e : List.range (z - (i + 1)) = List.range k ++ (List.range (z - (i + 1) - k)).map (k + ·) := by
          rw [show z - (i + 1) = k + (z - (i + 1) - k) by omega, List.range_add]; simp
        rw [e, List.map_append, List.sum_append]; omega
      simp; lia
    refine codeAny_mono (lvl2 (p0 := p0) (p1 := p1) (p2 := p2) (e0 := e0) (pos := pos) T hh hkind hx d0 d1 (I0 := I0) (I1 := I1) (o0 := o0) (o1 := o1) (i := i) (j := i + 1 + k) (base := base ++ T1 z i k) hbl (fun e => off₂ (C, oC) (by simp) e.symm) h0D h1D hz
      ⟨_, _, _, oC, (I1, o1) :: (I0, o0) :: r, rfl, F₂, hC, ?_, ?_, ⟨ti, by simpa [d01] using hi⟩, ⟨t, by simp⟩, r, rfl, ?_, ?_⟩) ?_
    · rw [← rit_of (by omega)]
      exact news_sub N₂ (fun p hp => by
        simp only [List.mem_cons] at hp ⊢
        rcases hp with h | h | h | h | h <;> simp [h])
    · intro p hp
      refine ⟨?_, off₂ p (by
        simp only [List.mem_cons] at hp ⊢
        rcases hp with h | h | h <;> simp [h])⟩
      rcases List.mem_cons.mp hp with rfl | hp
      · exact hIC
      · exact (off p hp).1
    · exact fun p hp => ⟨hr0 p hp, (off p (by simp [hp])).2⟩
    · rw [List.append_assoc, ← hT']; exact hTr
    · rintro r₅ s₅ ⟨rfl, h₅⟩
      refine ⟨rfl, hQ _ ?_⟩
      obtain ⟨h5, tk5, m5, oC5, rest5, rfl, F5, hC5, N5, off5, ⟨ti5, hi5⟩, _, r5, rfl, hr5, hT5⟩ := h₅
      refine ⟨h5, tk5, m5, oC5, (I0, o0) :: r5, rfl, F5, hC5, ?_, ?_, ⟨ti5, hi5⟩, r5, rfl, fun p hp => (hr5 p hp).1, ?_⟩
      · exact news_sub N5 (fun p hp => by
          simp only [List.mem_cons] at hp ⊢
          rcases hp with h | h | h | h <;> simp [h])
      · intro p hp
        refine ⟨off5 p (List.mem_cons_of_mem _ hp), ?_⟩
        rcases List.mem_cons.mp hp with rfl | hp
        · exact h01
        · exact (hr5 p hp).2
      · rw [T1_succ, ← List.append_assoc]; exact hT5
  have hW := Walks.range (prog := prog) (w := w) hh I1 (((i + 1 : Nat) : Int)) 1 (z - (i + 1))
  refine start3_1 loop (hW.self 0 _ _ _ ?_ loop)
  obtain ⟨h, tk, m2, oC, rest, rfl, F, hC, N, off, hJ⟩ := hs
  have q := (N (I1, _) (List.mem_cons_self ..)).1
  show h.get? I1 = some _
  rw [Int.mul_one]; exact q
def K0 (D : Addr) (news : Led) (z : Nat) (k : Nat) (_m2 : Str → Option Value) (rest : Led) : Prop := Trips D news (T0 z k) rest
theorem T1_len {z i : Nat} (hz : z = 4 ∨ z = 6) (hi : i < z) : (T1 z i (z - (i + 1))).length ≤ 500 := by
  have all : ∀ z ∈ [4, 6], ∀ i ∈ List.range z, (T1 z i (z - (i + 1))).length ≤ 500 := by decide +kernel
  exact all z (by rcases hz with rfl | rfl <;> simp) i (by simpa using hi)
theorem T0_len {z i : Nat} (hz : z = 4 ∨ z = 6) (hi : i < z) : (T0 z i).length ≤ 500 := by
  have all : ∀ z ∈ [4, 6], ∀ i ∈ List.range z, (T0 z i).length ≤ 500 := by decide +kernel
  exact all z (by rcases hz with rfl | rfl <;> simp) i (by simpa using hi)
theorem lvl0 (T : Three prog w A s₀ h₀ L C m (compEnvC scope cl C env) elt e1 e2 x0 x1 x2 news z) (hh : A.handled = none) (hkind : scope.kind = .function) (hx0 : scope.names.lookup x0 = some .local) (hx1 : scope.names.lookup x1 = some .local) (hx : scope.names.lookup x2 = some .local) (d0 : x0 ≠ x2) (d1 : x1 ≠ x2) (d01 : x0 ≠ x1)
    (hs1 : ∀ x, foldedSetIterable e1 (compEnvC scope cl C env) x = pure x) (hs2 : ∀ x, foldedSetIterable e2 (compEnvC scope cl C env) x = pure x)
    {I0 : Addr} (hIC : I0 ≠ C) (hz : z = 4 ∨ z = 6) {s : Shared} {R : Result → Shared → Prop} (hR : ∀ s', LayFin h₀ L m C (K0 D news z z) s₀ s' → R (.ok .next) s')
    (hs : Lay h₀ L m C I0 (rit ((0 : Int) + ((0 : Nat) : Int)) ((z : Int) - ((0 : Nat) : Int))) (K0 D news z 0) s₀ s) :
    codeAny (model prog w) A (.compStart (.ListComp elt [⟨.Name x0 p0, e0, [], 0⟩, ⟨.Name x1 p1, e1, [], 0⟩, ⟨.Name x2 p2, e2, [], 0⟩] scope pos) 0 (.ref I0) (.ref D) (compEnvC scope cl C env)) R s := by
  let EE : Value → Shared → Prop := notedBy (model prog w) A (compEnvC scope cl C env) fun e s' => R (.error e) s'
  have loop : codeAny (model prog w) A (.compLoop (.ListComp elt [⟨.Name x0 p0, e0, [], 0⟩, ⟨.Name x1 p1, e1, [], 0⟩, ⟨.Name x2 p2, e2, [], 0⟩] scope pos) 0 (.ref I0) (.ref D) (compEnvC scope cl C env)) R s := by
    refine loop_deep (R := R) (fun k s' => ∃ i', k = z - i' ∧ i' ≤ z ∧ Lay h₀ L m C I0 (rit ((0 : Int) + (i' : Int)) ((z : Int) - (i' : Int))) (K0 D news z i') s₀ s') (turn3_0 ..) rfl rfl rfl (fun _ => rfl) hs1
      (lay_turn (R := R) (E := EE) (E' := EE) (lo := 0) (n := z) (J := K0 D news z) (x := x0) (px := p0) (scope := scope) (cl := cl) (env := env)
      (fun Q s₂ => wpAny (model prog w) A (eval e1 (compEnvC scope cl C env)) (fun x s₃ => wpAny (model prog w) A (pyIter x) (fun it' s₄ => codeAny (model prog w) A (.compStart (.ListComp elt [⟨.Name x0 p0, e0, [], 0⟩, ⟨.Name x1 p1, e1, [], 0⟩, ⟨.Name x2 p2, e2, [], 0⟩] scope pos) 1 it' (.ref D) (compEnvC scope cl C env)) (fun r s₅ => r = .ok .next ∧ Q () s₅) s₄) EE s₃) EE s₂) hh hIC hkind hx0 ?_ hR) (z - 0) ⟨0, rfl, Nat.zero_le _, hs⟩
    rintro k t h tk m2 oC r Q hk hTr hC F N off hQ
    have hTr : Trips D news (T0 z k) r := hTr
    generalize rit ((0 : Int) + ((k + 1 : Nat) : Int)) ((z : Int) - ((k + 1 : Nat) : Int)) = o0 at N hQ
    rw [Int.zero_add] at hC
    refine wpAny_mono (T.it1 k t h tk _ oC I0 _ _ _ hk hC (by simp) F N (fun p hp => by simp [hTr.sub p hp])) (fun y s₃ h₃ => ?_) fun _ _ e => e
    obtain ⟨r', h', tk', u, v, t', rfl, rfl, F', N', hr⟩ := h₃
    refine wpAny_pyIter_range hr (small_le (by omega) (by omega) (by omega) (by omega)) ?_
    obtain ⟨F₂, N₂, off₂⟩ := push_iter (s := { s₀ with heap := h', toks := tk' }) F' N' (o := { cls := .type "range_iterator", data := .fields #[rawInt ((k + 1 : Nat) : Int), rawInt (Builtin.Range.rangeSize ((k + 1 : Nat) : Int) (z : Int) 1), rawInt 1] }) rfl
    obtain ⟨oD, hoD⟩ := hTr.len
    have h0D : I0 ≠ D := fun e => (off (D, oD) hoD).2 e.symm
    have hT' : T0 z k = T0 z k ++ T1 z k 0 := by simp [T1]
    refine codeAny_mono (lvl1 (p0 := p0) (p1 := p1) (p2 := p2) (e0 := e0) (pos := pos) T hh hkind hx1 hx d0 d1 d01 hs2 (I0 := I0) (o0 := o0) (i := k) (base := T0 z k) (T0_len hz hk) (T1_len hz hk) (fun e => off₂ (C, oC) (by simp) e.symm) (off₂ (I0, o0) (by simp)) h0D (by omega) hk
      ⟨_, _, _, oC, (I0, o0) :: r, rfl, F₂, hC, ?_, ?_, ⟨t, by simp⟩, r, rfl, fun p hp => (off p hp).2, ?_⟩) ?_
    · rw [← rit_of (by omega)]
      exact news_sub N₂ (fun p hp => by
        simp only [List.mem_cons] at hp ⊢
        rcases hp with h | h | h | h <;> simp [h])
    · intro p hp
      refine ⟨?_, off₂ p (by
        simp only [List.mem_cons] at hp ⊢
        rcases hp with h | h <;> simp [h])⟩
      rcases List.mem_cons.mp hp with rfl | hp
      · exact hIC
      · exact (off p hp).1
    · rw [← hT']; exact hTr
    · rintro r₅ s₅ ⟨rfl, h₅⟩
      refine ⟨rfl, hQ _ ?_⟩
      obtain ⟨h5, tk5, m5, oC5, rest5, rfl, F5, hC5, N5, off5, ⟨ti5, hi5⟩, r5, rfl, hr5, hT5⟩ := h₅
      refine ⟨h5, tk5, m5, oC5, r5, rfl, F5, hC5, ?_, ?_, ?_⟩
      · exact news_sub N5 (fun p hp => by
          simp only [List.mem_cons] at hp ⊢
          rcases hp with h | h | h <;> simp [h])
      · exact fun p hp => ⟨off5 p (List.mem_cons_of_mem _ hp), hr5 p hp⟩
      · show Trips D news (T0 z (k + 1)) r5
        rw [T0_succ]; exact hT5
  have hW := Walks.range (prog := prog) (w := w) hh I0 0 1 z
  refine codeAny_compStart_list loop (hW.self 0 _ _ _ ?_ loop)
  obtain ⟨h, tk, m2, oC, rest, rfl, F, hC, N, off, hJ⟩ := hs
  have q := (N (I0, _) (List.mem_cons_self ..)).1
  show h.get? I0 = some _
  rw [Int.mul_one]; exact q
end
section
variable {prog : Program} {w : World} {A : Around} {E : Value → Shared → Prop} {s : Shared} {h₀ : Heap} {L : Addr} {m : Str → Option Value} {env : Env} {scope : Scope} {cl : List (Str × Addr)} {elt e0 e1 e2 : Expr} {x0 x1 x2 : Str} {p0 p1 p2 pos : Pos} {news : Led} {z : Nat}
theorem ListComp3 {Q : Value → Shared → Prop} (_F₀ : Fr h₀ L s.heap m) (_N₀ : News h₀ L s.heap news) (hh : A.handled = none) (hclos : closureFor scope env = pure cl) (hcell : ∀ y ∈ scope.names, y.2 ≠ .cell) (hkind : scope.kind = .function)
    (hnames : ∀ y ∈ scope.names, y.2 = .local → scope.names.lookup y.1 = some .local) (hx0 : scope.names.lookup x0 = some .local) (hx1 : scope.names.lookup x1 = some .local) (hx : scope.names.lookup x2 = some .local)
    (d0 : x0 ≠ x2) (d1 : x1 ≠ x2) (d01 : x0 ≠ x1)
    (hs0 : ∀ x, foldedSetIterable e0 env x = pure x) (hs1 : ∀ C x, foldedSetIterable e1 (compEnvC scope cl C env) x = pure x) (hs2 : ∀ C x, foldedSetIterable e2 (compEnvC scope cl C env) x = pure x) (hz : z = 4 ∨ z = 6)
    (h : wpAny (model prog w) A (eval e0 env) (fun xv s₁ => ∃ r h' tk' u v t', xv = .ref r ∧ s₁ = { s with heap := h', toks := tk' } ∧ Fr h₀ L h' m ∧ News h₀ L h' news ∧ IsRange h' r 0 (z : Int) 1 u v t') E s)
    (T : ∀ s₀ C, Three prog w A s₀ h₀ L C m (compEnvC scope cl C env) elt e1 e2 x0 x1 x2 news z)
    (fin : ∀ D r h' tk', Fr h₀ L h' m → News h₀ L h' r → Trips D news (T0 z z) r → Q (.ref D) { s with heap := h', toks := tk' }) :
    wpAny (model prog w) A (eval (.ListComp elt [⟨.Name x0 p0, e0, [], 0⟩, ⟨.Name x1 p1, e1, [], 0⟩, ⟨.Name x2 p2, e2, [], 0⟩] scope pos) env) Q E s := by
  rw [eval_ListComp]
  refine wpAny_comprehension_free (use := none) rfl hs0 hclos hkind hnames (wpAny_mono h (fun xv s₁ h₁ => ?_) fun _ _ e => e)
  obtain ⟨r, h', tk', u, v, t', rfl, rfl, F, N, hr⟩ := h₁
  refine wpAny_pyIter_range hr (small_le (by omega) (by omega) (by omega) (by omega)) ?_
  obtain ⟨F₁, N₁, off₁⟩ := push_iter (s := { s with heap := h', toks := tk' }) F N (o := { cls := .type "range_iterator", data := .fields #[rawInt 0, rawInt (Builtin.Range.rangeSize 0 (z : Int) 1), rawInt 1] }) rfl
  generalize hH1 : ({ s with heap := h', toks := tk' } : Shared).heap.push ({ cls := .type "range_iterator", data := .fields #[rawInt 0, rawInt (Builtin.Range.rangeSize 0 (z : Int) 1), rawInt 1] } : Obj) = H1 at F₁ N₁
  generalize hI0 : ({ s with heap := h', toks := tk' } : Shared).heap.objs.size = I0 at N₁ off₁
  refine wpAny_newObj_type (wpAny_newFunctionEnv hcell (by intro y hy; simp at hy) (fun h₁ hns₁ hsb₁ => ?_) hkind)
  dsimp only at hns₁ hsb₁ ⊢
  obtain ⟨F₂, N₂, off₂⟩ := push_iter (s := { s with heap := H1, toks := tk' }) F₁ N₁ (o := { cls := .type "list", dict := none, data := .seq ([] : List Value).toArray }) rfl
  dsimp only at F₂ N₂ off₂
  generalize hH2 : H1.push { cls := .type "list", dict := none, data := .seq ([] : List Value).toArray } = H2 at hns₁ hsb₁ F₂ N₂
  generalize hD : H1.objs.size = D at N₂ off₂
  have hCn : ∀ p ∈ (D, ({ cls := .type "list", dict := none, data := .seq ([] : List Value).toArray } : Obj)) :: (I0, _) :: news, p.1 ≠ H2.objs.size := fun p hp => Nat.ne_of_lt (Heap.lt_size (N₂ p hp).1)
  have hCL : H2.objs.size ≠ L := fun e => Nat.lt_irrefl _ (e ▸ F₂.ns.lt : H2.objs.size < H2.objs.size)
  have hC₀ : h₀.get? H2.objs.size = none := next_is_new F₂
  have old : ∀ b o, H2.get? b = some o → h₁.get? b = some o := fun b o e => hsb₁.extBut b o (Nat.ne_of_lt (Heap.lt_size e)) (Heap.get?_push_of_some _ e)
  obtain ⟨oC, heC, hoC⟩ := ns_obj hns₁
  generalize hC : H2.objs.size = C at *
  have ec : (C : Addr) = C := rfl
  show codeAny _ _ (Code.compStart _ 0 (.ref I0) (.ref D) (compEnvC scope cl C env)) _ _
  refine lvl0 (s₀ := { s with heap := h₁, toks := tk' }) (T _ C) hh hkind hx0 hx1 hx d0 d1 d01 (hs1 C) (hs2 C) (hCn (I0, _) (List.mem_cons_of_mem _ (List.mem_cons_self ..))) hz ?_ ?_
  · rintro s' ⟨h5, tk5, m5, oC5, rest5, rfl, F5, hC5, N5, off5, hT⟩
    refine ⟨m5, hC5.ns (N5 (C, oC5) (List.mem_cons_self ..)).1, fun h6 hs6 => fin D rest5 h6 tk5 (F5.change hs6 hCL hC₀) (fun p hp => ?_) hT⟩
    have zz := N5 p (List.mem_cons_of_mem _ hp)
    exact ⟨hs6.extBut _ _ (off5 p hp) zz.1, zz.2⟩
  · refine ⟨h₁, _, _, oC, (D, lst []) :: news, rfl, F₂.keeps old, hoC, ?_, ?_, [], [], rfl, rfl, ?_, ?_, ?_, ?_⟩
    · intro p hp
      simp only [List.mem_cons] at hp
      rcases hp with rfl | rfl | rfl | hp
      · have q := N₂ (I0, _) (List.mem_cons_of_mem _ (List.mem_cons_self ..))
        refine ⟨(old _ _ q.1).trans ?_, q.2⟩
        have e1 : Builtin.Range.rangeSize 0 (z : Int) 1 = (z : Int) := by rw [rangeSize_one]; split <;> lia
        rw [e1]; simp [rit]
      · exact ⟨heC, hCL, hC₀⟩
      · have q := N₂ (D, _) (List.mem_cons_self ..)
        exact ⟨old _ _ q.1, q.2⟩
      · have q := N₂ p (by simp [hp])
        exact ⟨old _ _ q.1, q.2⟩
    · intro p hp
      rcases List.mem_cons.mp hp with rfl | hp
      · exact ⟨hCn (D, _) (List.mem_cons_self ..), fun e => off₂ (I0, _) (List.mem_cons_self ..) e.symm⟩
      · exact ⟨hCn p (by simp [hp]), off₁ p hp⟩
    · intro j q hq
      simp [T0] at hq
    · intro p hp; cases hp
    · exact fun q hq => off₂ q (by simp [hq])
    · intro q hq p hp; cases hp
end
end

section
open PyProof.Rows.LCg
theorem lines_MThreesW : True := by
  k_with_none
  k_with "my mem" => (first | assumption | k_mem)
  k_with "my kmem" => (first | assumption | (refine List.mem_append_right _ ?_; k_mem) | (refine List.mem_cons_of_mem _ ?_; k_mem))
  k_with "my kmem" => (exact List.mem_cons_self ..)
  k_with "subscriptTail Name Name ref int" => (walk_at "my item")
  k_with "subscriptTail Name Constant ref int" => (walk_at "my item")
  k_with "my item" => ((with_reducible show wpAny _ _ (subscriptTail _ _ (Value.ref _) (Value.int _ _)) _ _ _); k_dflt (refine item_led (by k_asm) (by walk_at "my mem") (by first | decide | with_reducible assumption | omega) (by first | decide | with_reducible assumption | omega) (by first | with_reducible assumption | exact rfl) ?_ (by with_unfolding_all rfl); k_whole))
  k_with "call builtin:len" => (k_here; (with_reducible show wpAny _ _ (call (Value.builtin "len") [Value.ref _]) _ _ _); k_dflt (refine len_led (by k_asm) (by walk_at "my mem") (by first | assumption | exact rfl) (by first | with_reducible assumption | omega) ?_; k_whole); intro t' k')
  k_with "my for" => (k_here; (rename Fr _ _ _ _ => lF'); (with_unfolding_all refine For_turns lF' ?_; k_whole))
  k_with "my frame" => (repeat' (first | exact OffStored.base | exact OffStored.refl _ _ | refine OffStored.put (by decide) ?_))
  k_with "my append" => (k_here; k_dflt (show wpAny _ _ (call (Value.builtin "list.append") [Value.ref _, _]) _ _ _); k_dflt (refine append_led (by k_asm) (by k_asm) (by walk_at "my mem") ?_ (by first | assumption | size_fits)); intro h' F' N')
  k_with "my div" => (k_here; (with_reducible show wpAny _ _ (binaryOp _ (Value.int _ _) (Value.float _ _)) _ _ _); k_dflt (refine div_if (by exact rfl) (by first | assumption | omega) (by decide +kernel) ?_; k_whole))
  k_with "my join" => (refine JoinP.of (by k_asm) (by k_asm) (by (intro y hy; first | rfl | exact if_neg hy)) ?_)
  k_with "storeName" => (k_here; (try dsimp only); k_dflt (refine storeX_L (by k_asm) (by k_asm) ?_ (by rfl) (by rfl); k_whole; intro h' F' N'; (try k_sweep)))
  k_with "my enterC" => (refine code_defC (by k_asm) (by k_asm) (by k_asm) (by k_asm) (by k_asm) (by exact rfl) (by exact rfl) (by assumption) (by k_is) (by k_is) (by ktr_room) (by exact BindsTo.of_eq rfl) (by exact rfl) (by decide +kernel) ?_ (by exact rfl) (by exact rfl) (by exact rfl); k_whole; intro g' L' h' tk' cells' FG' F' N' Y' B' X' T' l1; k_cells Y'; (try simp only [List.cons_append, List.nil_append] at N'); (try dsimp only); (try k_lift B'); (try k_fold))
  k_with "setItem ref int" => (k_here; k_dflt (refine set_led (by k_asm) (by k_asm) (by walk_at "my mem") (by first | assumption | omega) (by first | assumption | omega) (by first | assumption | omega) ?_; k_whole); intro h' F' N')
  k_with "my tup" => ((with_reducible show wpAny _ _ (subscriptTail _ _ (Value.ref _) (Value.int _ _)) _ _ _); k_dflt (refine tup_led (by k_asm) (by walk_at "my mem") (by first | decide | with_reducible assumption | omega) (by first | decide | with_reducible assumption | omega) (by first | with_reducible assumption | exact rfl) ?_ (by with_unfolding_all rfl); k_whole))
  k_with "my comp" => (k_here; k_dflt (refine PyProof.Rows.LCg.CompSrc.ledger (by rfl) (by k_asm) (by k_asm) (by walk_at "my mem") (by first | assumption | size_fits | exact Nat.le_of_ble_eq_true rfl) ?_); intro g'; refine Halt.go ?_)
  k_with "my str.join" => (k_here; k_dflt (show wpAny _ _ (call (Value.builtin "str.join") [Value.str _ _, Value.ref _]) _ _ _); k_dflt (refine join_led (by k_asm) (by walk_at "my mem") (by assumption) (by assumption) (by assumption) (by decide +kernel) ?_); intro t' k')
  k_with "my free" => (k_here; (with_reducible show wpAny _ _ (eval (Expr.Name _ _) (compEnvC _ _ _ _)) _ _ _); k_dflt (refine ld_free (by rfl) (by k_asm) (by rfl) (by assumption) (by assumption) ?_))
  trivial

theorem more_MThreesW_1 : True := by
  k_with "eval ListComp" => (k_here; k_dflt (refine ListComp3 (by k_asm) (by k_asm) (by rfl) (by rfl) (by decide) (by rfl) (by decide) (by rfl) (by rfl) (by rfl) (by decide) (by decide) (by decide) (by intro _; rfl) (by intro _ _; rfl) (by intro _ _; rfl) (by assumption) (Halt.go ?_) (Halt.go ?_) (Halt.go ?_)))
  trivial
theorem threes_spec (w : World) (news : Led) (z : Nat) (t : Tok) (hz : z = 4 ∨ z = 6) :
   CallSpec w 115 [.int (z : Int) t] news 2 (fun tl r => ∃ (D : Addr) (as : List Addr), r = .ref D ∧ (D, lst (as.map Value.ref)) ∈ tl ∧ as.length = (T0 z z).length ∧
     ∀ (j : Nat) (q : Tri), (T0 z z)[j]? = some q → ∃ a t0 t1 t2, as[j]? = some a ∧ (a, tupI q t0 t1 t2) ∈ tl) := by
  w_on
  intro p loose mean mg mb dp un gd cn cs a ccd cl outer A₀ base h₀ L m s Q E B F X N T hk hd hu hret
  refine wpAny_call ?_
  k_dflt walk_at "my enterC"
  k_steps
  · refine Halt.mk ?_
    k_steps
    all_goals first | k_asm | assumption | skip
  · refine Halt.mk ?_
    intro s₀ C
    refine ⟨?_, ?_, ?_⟩
    · intro i t h tk m2 oC I o rest E' hi hC hx F N hsub
      have hcm : (_, _) ∈ _ := hsub _ (List.mem_cons_self ..)
      k_steps
      all_goals first | k_asm | assumption | skip
    · intro i t h tk m2 oC I o rest E' hi hC hx F N hsub
      have hcm : (_, _) ∈ _ := hsub _ (List.mem_cons_self ..)
      k_steps
      all_goals first | k_asm | assumption | skip
    · intro q t0 t1 t2 h tk m2 oC I o rest E' hC h0 h1 h2 F N
      k_steps
      all_goals first | k_asm | assumption | skip
      rename I < _ ∧ _ => hlt
      rename_i p' hp'
      exact Nat.ne_of_lt (ktn_ltOf (l := (I, o) :: (C, oC) :: rest) hlt _ hp')
  · refine Halt.mk ?_
    rintro D r h' tk' F N ⟨as, tl, rfl, hlen, hall, hnD, hnD', hnn⟩
    k_steps
    refine hret _ ((D, lst (as.map Value.ref)) :: tl) _ _ (by k_asm) (news_sub (by k_asm) (fun p hp => ?_)) ?_ ⟨D, as, rfl, List.mem_cons_self .., hlen, fun j q hq => ?_⟩
    · simp only [List.cons_append, List.mem_cons, List.mem_append] at hp ⊢
      rcases hp with h | h | h <;> simp [h]
    · intro q hq p hp
      rcases List.mem_cons.mp hp with rfl | hp
      · exact hnD' q (List.mem_cons_of_mem _ hq)
      · exact hnn q (List.mem_cons_of_mem _ hq) p hp
    · obtain ⟨a, t0, t1, t2, e1, e2⟩ := hall j q hq
      exact ⟨a, t0, t1, t2, e1, List.mem_cons_of_mem _ e2⟩
end

section
open PyProof.Rows.LCg
theorem lines_MDig : True := by
  k_with_none
  k_with "my mem" => (first | assumption | k_mem)
  k_with "my kmem" => (first | assumption | (refine List.mem_append_right _ ?_; k_mem) | (refine List.mem_cons_of_mem _ ?_; k_mem))
  k_with "my kmem" => (exact List.mem_cons_self ..)
  k_with "subscriptTail Name Name ref int" => (walk_at "my item")
  k_with "subscriptTail Name Constant ref int" => (walk_at "my item")
  k_with "my item" => ((with_reducible show wpAny _ _ (subscriptTail _ _ (Value.ref _) (Value.int _ _)) _ _ _); k_dflt (refine item_led (by k_asm) (by walk_at "my mem") (by first | decide | with_reducible assumption | omega) (by first | decide | with_reducible assumption | omega) (by first | with_reducible assumption | exact rfl) ?_ (by with_unfolding_all rfl); k_whole))
  k_with "call builtin:len" => (k_here; (with_reducible show wpAny _ _ (call (Value.builtin "len") [Value.ref _]) _ _ _); k_dflt (refine len_led (by k_asm) (by walk_at "my mem") (by first | assumption | exact rfl) (by first | with_reducible assumption | omega) ?_; k_whole); intro t' k')
  k_with "my for" => (k_here; (rename Fr _ _ _ _ => lF'); (with_unfolding_all refine For_turns lF' ?_; k_whole))
  k_with "my frame" => (repeat' (first | exact OffStored.base | exact OffStored.refl _ _ | refine OffStored.put (by decide) ?_))
  k_with "my append" => (k_here; k_dflt (show wpAny _ _ (call (Value.builtin "list.append") [Value.ref _, _]) _ _ _); k_dflt (refine append_led (by k_asm) (by k_asm) (by walk_at "my mem") ?_ (by first | assumption | size_fits)); intro h' F' N')
  k_with "my div" => (k_here; (with_reducible show wpAny _ _ (binaryOp _ (Value.int _ _) (Value.float _ _)) _ _ _); k_dflt (refine div_if (by exact rfl) (by first | assumption | omega) (by decide +kernel) ?_; k_whole))
  k_with "my join" => (refine JoinP.of (by k_asm) (by k_asm) (by (intro y hy; first | rfl | exact if_neg hy)) ?_)
  k_with "storeName" => (k_here; (try dsimp only); k_dflt (refine storeX_L (by k_asm) (by k_asm) ?_ (by rfl) (by rfl); k_whole; intro h' F' N'; (try k_sweep)))
  k_with "my enterC" => (refine code_defC (by k_asm) (by k_asm) (by k_asm) (by k_asm) (by k_asm) (by exact rfl) (by exact rfl) (by assumption) (by k_is) (by k_is) (by ktr_room) (by exact BindsTo.of_eq rfl) (by exact rfl) (by decide +kernel) ?_ (by exact rfl) (by exact rfl) (by exact rfl); k_whole; intro g' L' h' tk' cells' FG' F' N' Y' B' X' T' l1; k_cells Y'; (try simp only [List.cons_append, List.nil_append] at N'); (try dsimp only); (try k_lift B'); (try k_fold))
  k_with "setItem ref int" => (k_here; k_dflt (refine set_led (by k_asm) (by k_asm) (by walk_at "my mem") (by first | assumption | omega) (by first | assumption | omega) (by first | assumption | omega) ?_; k_whole); intro h' F' N')
  k_with "my tup" => ((with_reducible show wpAny _ _ (subscriptTail _ _ (Value.ref _) (Value.int _ _)) _ _ _); k_dflt (refine tup_led (by k_asm) (by walk_at "my mem") (by first | decide | with_reducible assumption | omega) (by first | decide | with_reducible assumption | omega) (by first | with_reducible assumption | exact rfl) ?_ (by with_unfolding_all rfl); k_whole))
  k_with "my comp" => (k_here; k_dflt (refine PyProof.Rows.LCg.CompSrc.ledger (by rfl) (by k_asm) (by k_asm) (by walk_at "my mem") (by first | assumption | size_fits | exact Nat.le_of_ble_eq_true rfl) ?_); intro g'; refine Halt.go ?_)
  k_with "my str.join" => (k_here; k_dflt (show wpAny _ _ (call (Value.builtin "str.join") [Value.str _ _, Value.ref _]) _ _ _); k_dflt (refine join_led (by k_asm) (by walk_at "my mem") (by assumption) (by assumption) (by assumption) (by decide +kernel) ?_); intro t' k')
  k_with "my free" => (k_here; (with_reducible show wpAny _ _ (eval (Expr.Name _ _) (compEnvC _ _ _ _)) _ _ _); k_dflt (refine ld_free (by rfl) (by k_asm) (by rfl) (by assumption) (by assumption) ?_))
  trivial

/-- what a maker's table of made defs may hold -/
abbrev Made (line col : Int) (qual : Str) (tab : Obj) (led : Led) : Prop :=
  ∃ (c' : Addr) (oc : Obj) (vs : Array Value) (t : Tok), tab = tabObj #[rawInt line, rawInt col, .ref c'] ∧ (c', oc) ∈ led ∧ oc.data = .fields vs ∧ vs[1]? = some (.str qual t)
def MkTab (line col : Int) (qual : Str) (tab : Obj) (led : Led) : Prop := tab = tabObj #[] ∨ Made line col qual tab led
/-- the contract of a def whose run writes its own table of made defs -/
abbrev CallSpecT (w : World) (f : Addr) (vs : List Value) (P : Addr) (tab : Obj) (rest : Led) (D : Nat) (Out : Led → Obj → Value → Prop) : Prop :=
  ∀ (p : Program) (loose : List Str) (mean : ExcName → Option Value) (mg mb : Str → Option Value)
    (dp un : Nat) (gd : Option (List Code)) (cn : Str) (cs : Scope) (a : Addr) (ccd : Value) (cl : List (Str × Addr)) (outer : List Env) (A₀ : Around) (base h₀ : Heap) (L : Addr) (m : Str → Option Value) (s : Shared) (Q E : Value → Shared → Prop),
    Below A₀ base outer h₀ → Fr h₀ L s.heap m → (KK w.params).In h₀ → News h₀ L s.heap ((P, tab) :: rest) → Top p loose mean mg mb h₀ → cs.kind = .function →
    dp + D < recursionLimit → un + 8 * D < cLine →
    (∀ r tl tab' h' tk', Fr h₀ L h' m → News h₀ L h' (tl ++ (P, tab') :: rest) → (∀ q ∈ (P, tab') :: rest, ∀ p ∈ tl, q.1 ≠ p.1) → Out tl tab' r → Q r { s with heap := h', toks := tk' }) →
      wpAny (model MyProg w) (ktrTop dp un gd cn cs L a ccd cl outer) (call (.ref f) vs) Q E s
theorem CallSpecT.mono {w : World} {f : Addr} {vs : List Value} {P : Addr} {tab : Obj} {rest : Led} {D : Nat} {Out Out' : Led → Obj → Value → Prop} (C : CallSpecT w f vs P tab rest D Out) (h : ∀ tl tab' r, Out tl tab' r → Out' tl tab' r) : CallSpecT w f vs P tab rest D Out' := by
  intro p loose mean mg mb dp un gd cn cs a ccd cl outer A₀ base h₀ L m s Q E B F X N T hk hd hu hret
  exact C p loose mean mg mb dp un gd cn cs a ccd cl outer A₀ base h₀ L m s Q E B F X N T hk hd hu fun r tl tab' h' tk' F' N' ap o => hret r tl tab' h' tk' F' N' ap (h _ _ _ o)
/-- the frame's names lie above the ledger of the caller -/
structure Above (L P : Addr) (rest : Led) : Prop where
  h1 : P < L
  h2 : AllLt L rest
theorem tab_ne {P c L : Addr} {tab : Obj} {rest : Led} (h : Above L P rest) (hc : @LT.lt Nat _ L c) : ∀ p ∈ (P, tab) :: rest, p.1 ≠ c := fun p hp => by
  rcases List.mem_cons.mp hp with rfl | hp
  · exact Nat.ne_of_lt (Nat.lt_trans h.h1 hc)
  · exact Nat.ne_of_lt (Nat.lt_trans (ktn_ltOf h.h2 p hp) hc)
theorem rest_ne {P c L : Addr} {rest : Led} (h : Above L P rest) (hc : @LT.lt Nat _ L c) : ∀ p ∈ rest, p.1 ≠ c := fun p hp => Nat.ne_of_lt (Nat.lt_trans (ktn_ltOf h.h2 p hp) hc)
theorem Made.mono {line col : Int} {q : Str} {tab : Obj} {l l' : Led} (h : Made line col q tab l) (hs : ∀ p ∈ l, p ∈ l') : Made line col q tab l' := by
  obtain ⟨c, oc, vs, t, e, hm, h1, h2⟩ := h
  exact ⟨c, oc, vs, t, e, hs _ hm, h1, h2⟩
theorem MkTab.mono {line col : Int} {q : Str} {tab : Obj} {l l' : Led} (h : MkTab line col q tab l) (hs : ∀ p ∈ l, p ∈ l') : MkTab line col q tab l' := by
  rcases h with h | ⟨c, oc, vs, t, e, hm, h1, h2⟩
  · exact Or.inl h
  · exact Or.inr ⟨c, oc, vs, t, e, hs _ hm, h1, h2⟩
theorem data_cell {o : Obj} {x y : Data} (h : o.data = x) (e : x = y) : o.data = y := h.trans e
theorem ne_cons {P c : Addr} {o : Obj} {rest : Led} (h : c ≠ P) (hr : ∀ p ∈ rest, p.1 ≠ P) : ∀ p ∈ (c, o) :: rest, p.1 ≠ P := fun p hp => by
  rcases List.mem_cons.mp hp with rfl | hp
  · exact h
  · exact hr p hp
theorem more_MDig_1 : True := by
  k_with "my all" => (exact tab_ne (by assumption) (by omega))
  k_with "my all" => (with_reducible assumption)
  k_with "truthy ref" => (k_here; (with_reducible show wpAny _ _ (truthy (Value.ref _)) _ _ _); k_dflt (first | refine truthy_nil (by k_asm) (by k_mem) ?_ | refine truthy_cons (by k_asm) (by k_mem) (by first | assumption | (simp only [List.length_cons, List.length_nil]; omega)) ?_))
  trivial
theorem apart_of {P L : Addr} {tab : Obj} {rest tl : Led} (ab : Above L P rest) (h : ∀ p ∈ tl, @LT.lt Nat _ L p.1) : ∀ q ∈ (P, tab) :: rest, ∀ p ∈ tl, q.1 ≠ p.1 := fun q hq p hp => by
  rcases List.mem_cons.mp hq with rfl | hq
  · exact Nat.ne_of_lt (Nat.lt_trans ab.h1 (h p hp))
  · exact Nat.ne_of_lt (Nat.lt_trans (ktn_ltOf ab.h2 q hq) (h p hp))
theorem more_MDig_2 : True := by
  k_with "my above" => (repeat' (first | exact List.forall_mem_nil _ | refine List.forall_mem_cons.mpr ⟨by (show @LT.lt Nat _ _ _; dsimp only; omega), ?_⟩))
  k_with "call ref" => (k_here; k_dflt (refine wpAny_call ?_; (apply code_nest; (case hA => exact rfl); (case hf => exact rfl); (case hke => exact rfl); (case B => k_asm); (case F => k_asm); (case X₀ => k_asm); (case N => k_asm); (case T => k_asm); (case ho => k_mem); (case hcd => exact codeRec_news (by k_asm) (by k_mem) (by assumption) (by assumption)); (case hroom => ktr_room); (case hbind => exact BindsTo.of_eq rfl); (case hcell => decide); (case hloc => exact locs rfl); (case hco => exact rfl); (case hgen => exact rfl); (case hk => exact rfl); k_whole; intro g' L' h' FG' F' N' B' X' T'; (try dsimp only); (try k_lift B'); (try k_fold))))
  trivial
abbrev qD2I : Str := Str.ofString "_digits2int.<locals>.inner"
end

section
theorem lines_MDivm : True := by
  k_with_none
  k_with "my mem" => (first | assumption | k_mem)
  k_with "my kmem" => (first | assumption | (refine List.mem_append_right _ ?_; k_mem) | (refine List.mem_cons_of_mem _ ?_; k_mem))
  k_with "my kmem" => (exact List.mem_cons_self ..)
  k_with "subscriptTail Name Name ref int" => (walk_at "my item")
  k_with "subscriptTail Name Constant ref int" => (walk_at "my item")
  k_with "my item" => ((with_reducible show wpAny _ _ (subscriptTail _ _ (Value.ref _) (Value.int _ _)) _ _ _); k_dflt (refine item_led (by k_asm) (by walk_at "my mem") (by first | decide | with_reducible assumption | omega) (by first | decide | with_reducible assumption | omega) (by first | with_reducible assumption | exact rfl) ?_ (by with_unfolding_all rfl); k_whole))
  k_with "call builtin:len" => (k_here; (with_reducible show wpAny _ _ (call (Value.builtin "len") [Value.ref _]) _ _ _); k_dflt (refine len_led (by k_asm) (by walk_at "my mem") (by first | assumption | exact rfl) (by first | with_reducible assumption | omega) ?_; k_whole); intro t' k')
  k_with "my for" => (k_here; (rename Fr _ _ _ _ => lF'); (with_unfolding_all refine For_turns lF' ?_; k_whole))
  k_with "my frame" => (repeat' (first | exact OffStored.base | exact OffStored.refl _ _ | refine OffStored.put (by decide) ?_))
  k_with "my append" => (k_here; k_dflt (show wpAny _ _ (call (Value.builtin "list.append") [Value.ref _, _]) _ _ _); k_dflt (refine append_led (by k_asm) (by k_asm) (by walk_at "my mem") ?_ (by first | assumption | size_fits)); intro h' F' N')
  k_with "my div" => (k_here; (with_reducible show wpAny _ _ (binaryOp _ (Value.int _ _) (Value.float _ _)) _ _ _); k_dflt (refine div_if (by exact rfl) (by first | assumption | omega) (by decide +kernel) ?_; k_whole))
  k_with "my join" => (refine JoinP.of (by k_asm) (by k_asm) (by (intro y hy; first | rfl | exact if_neg hy)) ?_)
  k_with "storeName" => (k_here; (try dsimp only); k_dflt (refine storeX_L (by k_asm) (by k_asm) ?_ (by rfl) (by rfl); k_whole; intro h' F' N'; (try k_sweep)))
  k_with "my enterC" => (refine code_defC (by k_asm) (by k_asm) (by k_asm) (by k_asm) (by k_asm) (by exact rfl) (by exact rfl) (by assumption) (by k_is) (by k_is) (by ktr_room) (by exact BindsTo.of_eq rfl) (by exact rfl) (by decide +kernel) ?_ (by exact rfl) (by exact rfl) (by exact rfl); k_whole; intro g' L' h' tk' cells' FG' F' N' Y' B' X' T' l1; k_cells Y'; (try simp only [List.cons_append, List.nil_append] at N'); (try dsimp only); (try k_lift B'); (try k_fold))
  k_with "setItem ref int" => (k_here; k_dflt (refine set_led (by k_asm) (by k_asm) (by walk_at "my mem") (by first | assumption | omega) (by first | assumption | omega) (by first | assumption | omega) ?_; k_whole); intro h' F' N')
  k_with "my tup" => ((with_reducible show wpAny _ _ (subscriptTail _ _ (Value.ref _) (Value.int _ _)) _ _ _); k_dflt (refine tup_led (by k_asm) (by walk_at "my mem") (by first | decide | with_reducible assumption | omega) (by first | decide | with_reducible assumption | omega) (by first | with_reducible assumption | exact rfl) ?_ (by with_unfolding_all rfl); k_whole))
  k_with "my comp" => (k_here; k_dflt (refine PyProof.Rows.LCg.CompSrc.ledger (by rfl) (by k_asm) (by k_asm) (by walk_at "my mem") (by first | assumption | size_fits | exact Nat.le_of_ble_eq_true rfl) ?_); intro g'; refine Halt.go ?_)
  k_with "my str.join" => (k_here; k_dflt (show wpAny _ _ (call (Value.builtin "str.join") [Value.str _ _, Value.ref _]) _ _ _); k_dflt (refine join_led (by k_asm) (by walk_at "my mem") (by assumption) (by assumption) (by assumption) (by decide +kernel) ?_); intro t' k')
  k_with "my free" => (k_here; (with_reducible show wpAny _ _ (eval (Expr.Name _ _) (compEnvC _ _ _ _)) _ _ _); k_dflt (refine ld_free (by rfl) (by k_asm) (by rfl) (by assumption) (by assumption) ?_))
  trivial

theorem bits_lt {a : Int} {k : Nat} (h0 : 0 ≤ a) (h : a < 2 ^ k) : Builtin.Int.intBits a ≤ k := by
  unfold Builtin.Int.intBits
  split
  · omega
  · rename_i hne
    have h1 : a.natAbs ≠ 0 := by intro e; apply hne; simp; omega
    have h2 : a.natAbs < 2 ^ k := by
      have e : ((a.natAbs : Nat) : Int) = a := by omega
      have : ((a.natAbs : Nat) : Int) < ((2 ^ k : Nat) : Int) := by rw [e]; push_cast; exact h
      exact_mod_cast this
    have := (Nat.log2_lt h1).mpr h2
    omega
theorem div2n1n_spec (w : World) (news : Led) (a : Int) (ta tb tn : Tok) (ha : 0 ≤ a) (ha2 : a < 2 ^ 60) :
   CallSpec w 21 [.int a ta, .int 65793 tb, .int 17 tn] news 2 (fun tl r => ∃ (x : Addr) (t0 t1 : Tok), r = .ref x ∧ tl = [(x, ({ cls := .type "tuple", data := .seq #[.int (a.fdiv 65793) t0, .int (a.fmod 65793) t1] } : Obj))]) := by
  w_on
  intro p loose mean mg mb dp un gd cn cs a' ccd cl outer A₀ base h₀ L m s Q E B F X N T hk hd hu hret
  refine wpAny_call ?_
  k_dflt cell_enter
  have hb := bits_lt ha ha2
  have ha3 : a < 1152921504606846976 := ha2
  k_steps
  rename News h₀ L _ _ => kN
  rename Fr h₀ L _ _ => kF
  rename News _ _ _ news => N2
  exact ret1N hret kF kN (fun p hp => Nat.ne_of_lt (Heap.lt_size (N2 p hp).1)) ⟨_, _, _, rfl, rfl⟩
end

section
open PyProof.Rows.LCg
section
variable {M : Model} {A : Around} {E : Value → Shared → Prop} {s : Shared} {h₀ : Heap} {L a c P : Addr} {m mg mb : Str → Option Value} {cn : Str} {cs : Scope} {ccd : Value} {cl : List (Str × Addr)} {news : Led} {g : Obj → Led}
  {p : Program} {loose : List Str} {mean : ExcName → Option Value} {name qual : Str} {params : Arguments} {body : List Stmt} {scope : Scope} {pos : Pos} {firstLine : Nat} {clos : List (Str × Addr)} {tab : Obj}
/-- a def made under a table that may hold it already: one ledger for both ways (R: where the made code may lie) -/
theorem nest_any {R : Led} {Q : Value → Shared → Prop} (F : Fr h₀ L s.heap m) (N : News h₀ L s.heap news) (T : Top p loose mean mg mb h₀) (C : CodeHd h₀ c P) (hcd : ccd = .ref c) (U : UpdF P tab news g) (ht : MkTab (pos.line : Nat) (pos.col : Nat) qual tab R)
    (hcl : closureFor scope (envX cn cs L a ccd cl) = pure clos)
    (h : ∀ f c' oc vs t ctv doc pre h' tk, Fr h₀ L h' m →
      News h₀ L h' ((f, fnMade name qual params body scope clos doc ((mg "__name__").getD .none) c' ctv) :: (pre ++ g (tabObj #[rawInt pos.line, rawInt pos.col, .ref c']))) →
      (tab = tabObj #[] ∧ (c', oc) ∈ pre) ∨ (tabObj #[rawInt pos.line, rawInt pos.col, .ref c'] = tab ∧ (c', oc) ∈ R) → oc.data = .fields vs → vs[1]? = some (.str qual t) → (∀ q ∈ pre, ∀ p ∈ news, p.1 < q.1) → (∀ q ∈ news, q.1 < f) → Q (.ref f) { s with heap := h', toks := tk }) :
    wpAny M A (makeFunction name qual params (.stmts body) scope (envX cn cs L a ccd cl) [] [] [] pos firstLine) Q E s := by
  rcases ht with rfl | ⟨c', oc, vs, t, rfl, hm, h1, h2⟩
  · refine nest_K F N T C hcd U True.intro rfl hcl ?_
    intro f c' oc vs t ctv doc h' tk F' N' d1 d2 l1 l2
    exact h f c' oc vs t ctv doc [(c', oc)] h' tk F' N' (Or.inl ⟨rfl, List.mem_cons_self ..⟩) d1 d2 (fun q hq p hp => by rw [List.mem_singleton.mp hq]; exact l1 p hp) (fun q hq => Nat.lt_trans (l1 q hq) l2)
  · obtain ⟨own, rest, rfl, hgr, _, _⟩ := U.split
    refine nestHit_K (c' := c') F N T C hcd (List.mem_append_right _ (List.mem_cons_self ..)) (by simp [TriplesOk, rawInt]) (by simp [codeAmong, rawInt]) hcl ?_
    intro f ctv doc h' tk F' N' l1
    refine h f c' oc vs t ctv doc [] h' tk F' ?_ (Or.inr ⟨rfl, hm⟩) h1 h2 (fun _ hq => nomatch hq) l1
    rw [hgr]; exact N'
end
section
variable {prog : Program} {w : World} {A : Around} {E : Value → Shared → Prop} {s : Shared} {h₀ : Heap} {L D : Addr} {m : Str → Option Value} {news : Led}
theorem truthy_any {ys : List Value} {n : Nat} {Q : Bool → Shared → Prop} (N : News h₀ L s.heap news) (hm : (D, W.listOf ys.toArray n) ∈ news) (hf : ys.length < 100) (h : Q (!ys.isEmpty) { s with toks := s.toks + 1 + 1 }) :
    wpAny (model prog w) A (truthy (.ref D)) Q E s := wpAny_truthy_list (isList_of N hm) (by simp; (first | lia | omega)) (by cases ys <;> simpa using h)
/-- a fact that the arithmetic of the walk shall not see -/
structure Hid (p : Prop) : Prop where
  un : p
theorem shr_use {x r : Int} {t u : Tok} {Q : Value → Shared → Prop} (e : Hid (x.fdiv 2 = r)) (h : ∀ t tk, Q (.int r t) { s with toks := tk }) : wpAny (model prog w) A (binaryOp .RShift (.int x t) (.int 1 u)) Q E s :=
  rshift_int (by decide) (by show Q (.int (x.fdiv 2) _) _; rw [e.un]; exact h _ _)
theorem shrb_use {x y r : Int} {b : Nat} {t u : Tok} {Q : Value → Shared → Prop} (hy : Hid (y = (b : Int))) (e : Hid (x.fdiv (2 ^ b) = r)) (h : ∀ t tk, Q (.int r t) { s with toks := tk }) : wpAny (model prog w) A (binaryOp .RShift (.int x t) (.int y u)) Q E s := by
  obtain rfl := hy.un
  exact rshift_int (Int.natCast_nonneg b) (by rw [Int.toNat_natCast, e.un]; exact h _ _)
theorem cmp_t {x y : Int} {t u : Tok} {Q : Value → Shared → Prop} (e : Hid (x = y)) (h : Q (.bool true) s) : wpAny (model prog w) A (compareOp .Eq (.int x t) (.int y u)) Q E s :=
  eq_int (by rw [show (x == y) = true from beq_iff_eq.mpr e.un]; exact h)
theorem cmp_f {x y : Int} {t u : Tok} {Q : Value → Shared → Prop} (e : Hid (¬ x = y)) (h : Q (.bool false) s) : wpAny (model prog w) A (compareOp .Eq (.int x t) (.int y u)) Q E s :=
  eq_int (by rw [show (x == y) = false from beq_eq_false_iff_ne.mpr e.un]; exact h)
theorem shl_use {x y : Int} {b : Nat} {t u : Tok} {Q : Value → Shared → Prop} (hy : Hid (y = (b : Int))) (hb : Hid (b ≤ 100)) (hx : Hid (x.natAbs < 2 ^ 64)) (h : ∀ t tk, Q (.int (x * 2 ^ b) t) { s with toks := tk }) : wpAny (model prog w) A (binaryOp .LShift (.int x t) (.int y u)) Q E s := by
  obtain rfl := hy.un
  exact lshift_int_small (Int.natCast_nonneg b) (by have := hb.un; omega) hx.un (by rw [Int.toNat_natCast]; exact h _ _)
end
theorem nest_out {h₀ h : Heap} {L : Addr} {x a b c q : Addr × Obj} {pre rest : Led} (N : News h₀ L h (x :: (pre ++ a :: b :: c :: q :: rest))) : News h₀ L h ((x :: (pre ++ [a, b, c])) ++ q :: rest) := by simpa using N
theorem nest_off {P L f : Addr} {tab of o1 o2 o3 : Obj} {pre rest : Led} (ab : Above L P rest) (hf : @LT.lt Nat _ (L + 1) f) (hp : ∀ q ∈ pre, @LT.lt Nat _ (L + 1) q.1) : ∀ q ∈ (P, tab) :: rest, ∀ p ∈ (f, of) :: (pre ++ [(L + 1 + 1 + 1, o1), (L + 1 + 1, o2), (L + 1, o3)]), q.1 ≠ p.1 :=
  apart_of ab fun p h => by
    rcases List.mem_cons.mp h with rfl | h
    · show @LT.lt Nat _ L f; (first | lia | omega)
    · rcases List.mem_append.mp h with h | h
      · have := hp p h; show @LT.lt Nat _ L _; (first | lia | omega)
      · simp only [List.mem_cons, List.not_mem_nil, or_false] at h
        rcases h with rfl | rfl | rfl <;> (show @LT.lt Nat _ L _; (first | lia | omega))
/-- the table behind a maker's call: freshly filled, or as it was -/
abbrev GotTab (l k : Int) (q : Str) (tab tab' : Obj) (tl R : Led) : Prop := (tab = tabObj #[] ∧ Made l k q tab' tl) ∨ (tab' = tab ∧ Made l k q tab R)
theorem nest_made {l k : Int} {q : Str} {c' : Addr} {oc tab : Obj} {vs : Array Value} {t : Tok} {x : Addr × Obj} {pre post rest : Led}
    (h : (tab = tabObj #[] ∧ (c', oc) ∈ pre) ∨ (tabObj #[rawInt l, rawInt k, .ref c'] = tab ∧ (c', oc) ∈ rest)) (h1 : oc.data = .fields vs) (h2 : vs[1]? = some (.str q t)) : GotTab l k q tab (tabObj #[rawInt l, rawInt k, .ref c']) (x :: (pre ++ post)) rest := by
  rcases h with ⟨h0, h⟩ | ⟨rfl, h⟩
  · exact Or.inl ⟨h0, c', oc, vs, t, rfl, by simp [h], h1, h2⟩
  · exact Or.inr ⟨rfl, c', oc, vs, t, rfl, h, h1, h2⟩
theorem way_mem {A B : Prop} {p : Addr × Obj} {pre rest : Led} (h : (A ∧ p ∈ pre) ∨ (B ∧ p ∈ rest)) : p ∈ pre ++ rest := h.elim (fun h => List.mem_append_left _ h.2) fun h => List.mem_append_right _ h.2
theorem led_is {h₀ h : Heap} {L : Addr} {R : Led} (N : News h₀ L h R) : ∃ R', R' = R ∧ News h₀ L h R' := ⟨_, rfl, N⟩
theorem nest_mem {R pre rest : Led} {x a b c q : Addr × Obj} (h : R = x :: (pre ++ a :: b :: c :: q :: rest)) : x ∈ R ∧ a ∈ R ∧ b ∈ R ∧ c ∈ R ∧ ∀ p ∈ pre ++ rest, p ∈ R := by
  subst h
  refine ⟨by simp, by simp, by simp, by simp, fun p hp => ?_⟩
  rcases List.mem_append.mp hp with hp | hp <;> simp [hp]
/-- the number that k digits from the l-th on make -/
def dsum (is : List Int) (b : Nat) : Nat → Nat → Int
  | _, 0 => 0
  | l, k + 1 => dsum is b (l + 1) k * 2 ^ b + iAt is l
theorem dsum_one (is : List Int) (b l : Nat) : dsum is b l 1 = iAt is l := by simp [dsum]
theorem dsum_b {is : List Int} {b : Nat} (hb : b ≤ 17) (hd : ∀ d ∈ is, 0 ≤ d ∧ d < 2 ^ 20) : ∀ (k l : Nat), k ≤ 2 → 0 ≤ dsum is b l k ∧ dsum is b l k < 2 ^ 60 := by
  have hi : ∀ l, 0 ≤ iAt is l ∧ iAt is l < 2 ^ 20 := fun l => by
    unfold iAt
    rw [List.getD_eq_getElem?_getD]
    cases e : is[l]? with
    | none => exact ⟨Int.le_refl _, by decide⟩
    | some d => exact hd d (List.mem_of_getElem? e)
  have hp : (2 : Int) ^ b ≤ 2 ^ 17 := by exact_mod_cast Nat.pow_le_pow_right (by decide) hb
  have hp0 : (0 : Int) < 2 ^ b := Int.pow_pos (by decide)
  intro k l hk
  match k with
  | 0 => exact ⟨Int.le_refl _, by show (0 : Int) < _; decide⟩
  | 1 =>
    have := hi l
    simp only [dsum, Int.zero_mul, Int.zero_add]; (first | lia | omega)
  | 2 =>
    have h1 := hi l
    have h2 := hi (l + 1)
    simp only [dsum, Int.zero_mul, Int.zero_add]
    have h3 : iAt is (l + 1) * 2 ^ b ≤ 2 ^ 20 * 2 ^ 17 := Int.mul_le_mul (by (first | lia | omega)) hp (by (first | lia | omega)) (by decide)
    have h4 : 0 ≤ iAt is (l + 1) * 2 ^ b := Int.mul_nonneg h2.1 (by (first | lia | omega))
    (first | lia | omega)
theorem nat_abs64 {x : Int} (h : 0 ≤ x ∧ x < 2 ^ 60) : x.natAbs < 2 ^ 64 := by (first | lia | omega)
theorem half_mid {x y : Int} {k : Nat} (h1 : y = x + (k : Int)) (h2 : 2 ≤ k) (h3 : k ≤ 3) : (x + y).fdiv 2 = x + 1 := by
  rw [Int.fdiv_eq_ediv_of_nonneg _ (by decide)]; (first | lia | omega)
theorem one_b {x : Int} {b : Nat} : (x + 1 - x) * (b : Int) = (b : Int) := by
  rw [show x + 1 - x = 1 by (first | lia | omega), Int.one_mul]
/-- what the steps down ask of the segment's ends -/
theorem k_seg {k l n : Nat} {y : Int} (hy : y = (l : Int) + (k : Int)) (h : ¬ (l : Int) + 1 = y) (h1 : 1 ≤ k) (h3 : k ≤ 3) (hl : l + k ≤ n) :
    2 ≤ k ∧ (1 < k ∧ l + 1 ≤ n) ∧ (k - 1 < k ∧ 1 ≤ k - 1 ∧ k - 1 ≤ 3) ∧ y = ((l + 1 : Nat) : Int) + ((k - 1 : Nat) : Int) ∧ l + 1 + (k - 1) ≤ n := by omega
theorem k_room {dp k R : Nat} (h : dp + k < R) (h2 : 2 ≤ k) : dp + 1 + 1 < R ∧ dp + 1 + (k - 1) < R := by omega
theorem k_units {un k R : Nat} (h : un + 8 * k < R) (h2 : 2 ≤ k) : un + 3 + 8 * 1 < R ∧ un + 3 + 8 * (k - 1) < R := by omega
theorem one_seg {k l : Nat} {y : Int} (hy : y = (l : Int) + (k : Int)) (e : (l : Int) + 1 = y) : k = 1 := by omega
theorem b17_bits {b : Nat} (hb : b ≤ 17) : Builtin.Int.intBits (b : Int) ≤ 64 := bits_lt (by omega) (by omega)
theorem k_suc {k : Nat} (h : 2 ≤ k) : ∃ j, k = j + 1 := ⟨k - 1, by omega⟩
theorem lines_MNest : True := by
  k_with_none
  k_with "my mem" => (first | assumption | k_mem)
  k_with "my kmem" => (first | assumption | (refine List.mem_append_right _ ?_; k_mem) | (refine List.mem_cons_of_mem _ ?_; k_mem))
  k_with "my kmem" => (exact List.mem_cons_self ..)
  k_with "subscriptTail Name Name ref int" => (walk_at "my item")
  k_with "subscriptTail Name Constant ref int" => (walk_at "my item")
  k_with "my item" => ((with_reducible show wpAny _ _ (subscriptTail _ _ (Value.ref _) (Value.int _ _)) _ _ _); k_dflt (refine item_led (by k_asm) (by walk_at "my mem") (by first | decide | with_reducible assumption | omega) (by first | decide | with_reducible assumption | omega) (by first | with_reducible assumption | exact rfl) ?_ (by with_unfolding_all rfl); k_whole))
  k_with "call builtin:len" => (k_here; (with_reducible show wpAny _ _ (call (Value.builtin "len") [Value.ref _]) _ _ _); k_dflt (refine len_led (by k_asm) (by walk_at "my mem") (by first | assumption | exact rfl) (by first | with_reducible assumption | omega) ?_; k_whole); intro t' k')
  k_with "my for" => (k_here; (rename Fr _ _ _ _ => lF'); (with_unfolding_all refine For_turns lF' ?_; k_whole))
  k_with "my frame" => (repeat' (first | exact OffStored.base | exact OffStored.refl _ _ | refine OffStored.put (by decide) ?_))
  k_with "my append" => (k_here; k_dflt (show wpAny _ _ (call (Value.builtin "list.append") [Value.ref _, _]) _ _ _); k_dflt (refine append_led (by k_asm) (by k_asm) (by walk_at "my mem") ?_ (by first | assumption | size_fits)); intro h' F' N')
  k_with "my div" => (k_here; (with_reducible show wpAny _ _ (binaryOp _ (Value.int _ _) (Value.float _ _)) _ _ _); k_dflt (refine div_if (by exact rfl) (by first | assumption | omega) (by decide +kernel) ?_; k_whole))
  k_with "my join" => (refine JoinP.of (by k_asm) (by k_asm) (by (intro y hy; first | rfl | exact if_neg hy)) ?_)
  k_with "storeName" => (k_here; (try dsimp only); k_dflt (refine storeX_L (by k_asm) (by k_asm) ?_ (by rfl) (by rfl); k_whole; intro h' F' N'; (try k_sweep)))
  k_with "my enterC" => (refine code_defC (by k_asm) (by k_asm) (by k_asm) (by k_asm) (by k_asm) (by exact rfl) (by exact rfl) (by assumption) (by k_is) (by k_is) (by ktr_room) (by exact BindsTo.of_eq rfl) (by exact rfl) (by decide +kernel) ?_ (by exact rfl) (by exact rfl) (by exact rfl); k_whole; intro g' L' h' tk' cells' FG' F' N' Y' B' X' T' l1; k_cells Y'; (try simp only [List.cons_append, List.nil_append] at N'); (try dsimp only); (try k_lift B'); (try k_fold))
  k_with "setItem ref int" => (k_here; k_dflt (refine set_led (by k_asm) (by k_asm) (by walk_at "my mem") (by first | assumption | omega) (by first | assumption | omega) (by first | assumption | omega) ?_; k_whole); intro h' F' N')
  k_with "my tup" => ((with_reducible show wpAny _ _ (subscriptTail _ _ (Value.ref _) (Value.int _ _)) _ _ _); k_dflt (refine tup_led (by k_asm) (by walk_at "my mem") (by first | decide | with_reducible assumption | omega) (by first | decide | with_reducible assumption | omega) (by first | with_reducible assumption | exact rfl) ?_ (by with_unfolding_all rfl); k_whole))
  k_with "my comp" => (k_here; k_dflt (refine PyProof.Rows.LCg.CompSrc.ledger (by rfl) (by k_asm) (by k_asm) (by walk_at "my mem") (by first | assumption | size_fits | exact Nat.le_of_ble_eq_true rfl) ?_); intro g'; refine Halt.go ?_)
  k_with "my str.join" => (k_here; k_dflt (show wpAny _ _ (call (Value.builtin "str.join") [Value.str _ _, Value.ref _]) _ _ _); k_dflt (refine join_led (by k_asm) (by walk_at "my mem") (by assumption) (by assumption) (by assumption) (by decide +kernel) ?_); intro t' k')
  k_with "my free" => (k_here; (with_reducible show wpAny _ _ (eval (Expr.Name _ _) (compEnvC _ _ _ _)) _ _ _); k_dflt (refine ld_free (by rfl) (by k_asm) (by rfl) (by assumption) (by assumption) ?_))
  trivial

theorem more_MNest_1 : True := by
  k_with "my all" => (with_reducible assumption)
  k_with "my updF" => (first | with_reducible assumption | exact UpdF.tail (by with_unfolding_all assumption) (UpdF.app (by assumption) (UpdF.head (by assumption))))
  k_with "truthy ref" => (k_here; (with_reducible show wpAny _ _ (truthy (Value.ref _)) _ _ _); k_dflt (refine truthy_any (by k_asm) (by k_mem) (by assumption) ?_))
  k_with "binaryOp RShift int int" => (k_here; first | (refine shr_use (by with_reducible assumption) ?_) | (refine shrb_use (by with_reducible assumption) (by with_reducible assumption) ?_); intro t' tk')
  k_with "binaryOp LShift int int" => (k_here; (refine shl_use (by with_reducible assumption) (by with_reducible assumption) (by with_reducible assumption) ?_); intro t' tk')
  k_with "compareOp Eq int int" => (first | refine cmp_t (by with_reducible assumption) ?_ | refine cmp_f (by with_reducible assumption) ?_)
  k_with "exec FunctionDef" => (k_here; k_dflt (refine nestDef_K (by exact rfl) (by exact rfl) (by exact rfl) ?_); k_dflt (refine nest_any (by k_asm) (by k_asm) (by k_asm) (by assumption) (by exact rfl) (by assumption) (by assumption) (by exact rfl) ?_; k_whole); intro f' c' oc' vs' t' ct' dc' pre' h' tk' F' N' hc' d1' d2' lp' lf'; (try dsimp only at N'); refine Halt.go ?_)
  k_with "my inner" => (refine wpAny_call ?_; (apply code_nest; (case hA => exact rfl); (case hf => exact rfl); (case hke => first | exact rfl | assumption); (case B => k_asm); (case F => k_asm); (case X₀ => k_asm); (case N => k_asm); (case T => k_asm); (case ho => assumption); (case hcd => exact codeRec_news (by k_asm) (by assumption) (by assumption) (by assumption)); (case hroom => ktr_room); (case hbind => exact BindsTo.of_eq rfl); (case hcell => decide); (case hloc => exact locs rfl); (case hco => exact rfl); (case hgen => exact rfl); (case hk => exact rfl); k_whole; intro g' L' h' FG' F' N' B' X' T'; (try dsimp only); (try k_lift B'); (try k_fold)))
  k_with "call ref" => (k_here; (with_reducible show wpAny _ _ (call (Value.ref _) _) _ _ _); refine Halt.go ?_)
  trivial
theorem d2i_any (w : World) (rest : Led) (tab : Obj) (hP : ∀ p ∈ rest, p.1 ≠ 37) (hT : MkTab 47 4 qD2I tab rest) (ld : Addr) (z : Nat) (tn : Tok) (b : Nat) (hb : b ≤ 17) (ds : List Value) (is : List Int) (hm : (ld, W.listOf ds.toArray z) ∈ rest)
   (hi : IntsAre ds is) (hl : ds.length ≤ 3) (hd : ∀ d ∈ is, 0 ≤ d ∧ d < 2 ^ 20) :
   CallSpecT w 42 [.ref ld, .int b tn] 37 tab rest 6 (fun tl tab' r => GotTab 47 4 qD2I tab tab' tl rest ∧ ∃ t, r = .int (dsum is b 0 ds.length) t) := by
  w_on
  intro p loose mean mg mb dp un gd cn cs a ccd cl outer A₀ base h₀ L m s Q E B F X N T hk hdp hun hret
  refine wpAny_call ?_
  k_dflt walk_at "my enterC"
  rename Frag.In _ _ => X1
  have hcd := codeHd_of_K (c := 41) (P := 37) X1 (by kernel_rfl)
  rename_i o1 o2 o3 d1 d2 d3
  obtain ⟨m0, F1⟩ : ∃ m0, Fr g' L' h' m0 := ⟨_, F'⟩
  clear F'
  replace d1 := data_cell d1 (y := Data.cell none) (by with_unfolding_all rfl)
  replace d3 := data_cell d3 (y := Data.cell (some (Value.ref ld))) (by with_unfolding_all rfl)
  replace d2 := data_cell d2 (y := Data.cell (some (Value.int b tn))) (by with_unfolding_all rfl)
  obtain ⟨lt2, lt3⟩ := allLt_of l1
  have lt4 : 37 < L' := lt2
  have ab := Above.mk lt4 lt3
  have hU : UpdF 37 tab ((L' + 1 + 1 + 1, o1) :: (L' + 1 + 1, o2) :: (L' + 1, o3) :: (37, tab) :: rest) _ := UpdF.tail (by show @Ne Nat _ _; (first | lia | omega)) (UpdF.tail (by show @Ne Nat _ _; (first | lia | omega)) (UpdF.tail (by show @Ne Nat _ _; (first | lia | omega)) (UpdF.head hP)))
  k_steps
  refine Halt.mk ?_
  have hn1 : f' ≠ L' + 1 + 1 + 1 := Nat.ne_of_gt (lf' _ (List.mem_cons_self ..))
  have hn2 : ∀ p ∈ pre', p.1 ≠ L' + 1 + 1 + 1 := fun p hp => Nat.ne_of_gt (lp' p hp _ (List.mem_cons_self ..))
  have hn3 : ∀ p ∈ (L' + 1 + 1, o2) :: (L' + 1, o3) :: (37, _) :: rest, p.1 ≠ L' + 1 + 1 + 1 := ne_cons (by show @Ne Nat _ _; (first | lia | omega)) (ne_cons (by show @Ne Nat _ _; (first | lia | omega)) (tab_ne (tab := tabObj #[rawInt 47, rawInt 4, .ref c']) ab (by show @LT.lt Nat _ _ _; (first | lia | omega))))
  have hl2 : ds.length < 100 := by (first | lia | omega)
  k_steps
  · rename List.isEmpty _ = _ => he
    have h0 : ds.length = 0 := by cases ds with | nil => rfl | cons _ _ => simp at he
    exact hret _ _ _ _ _ (by k_asm) (nest_out (by k_asm)) (nest_off ab (lf' (L' + 1, o3) (by simp)) fun q hq => lp' q hq (L' + 1, o3) (by simp)) ⟨nest_made hc' d1' d2', _, by rw [h0]; rfl⟩
  · refine Halt.mk ?_
    rename News _ _ _ _ => N1
    rename List.isEmpty _ = _ => he
    rename _ = Data.cell (some (Value.ref f')) => dR
    obtain ⟨R0, hR0, N2⟩ := led_is N1
    clear N1
    obtain ⟨mf, m3, m2, m1, hR⟩ := nest_mem hR0
    have mc := hR _ (way_mem hc')
    have ml : (ld, W.listOf ds.toArray z) ∈ R0 := hR _ (List.mem_append_right _ hm)
    have key : ∀ (k : Nat), 1 ≤ k → k ≤ 3 → ∀ (l : Nat) (x y : Int) (tx ty : Tok), x = (l : Int) → y = x + (k : Int) → l + k ≤ ds.length →
        CallSpec w f' [.int x tx, .int y ty] R0 k (fun tl r => tl = [] ∧ ∃ t, r = .int (dsum is b l k) t) := by
      intro k
      induction k using Nat.strongRecOn with
      | _ k ih =>
      intro hk1 hk3 l x y tx ty hx hy hlen p loose mean mg mb dp un gd cn cs a ccd cl outer A₀ base h₀ L m s Q E B F X N T hk hdp hun hret
      subst hx
      have il := hi.length
      have a0 : (0 : Int) ≤ (l : Nat) := Int.natCast_nonneg l
      have a1 : ((l : Nat) : Int) < 2 ^ 63 := by (first | lia | omega)
      obtain ⟨u, a2⟩ := ints_at hi (i := l) (by (first | lia | omega))
      have a3 : ds[((l : Nat) : Int).toNat]? = some (.int (iAt is l) u) := a2
      by_cases hk2 : k = 1
      · subst hk2
        have b0 : Hid ((l : Int) + 1 = y) := ⟨hy.symm⟩
        clear hy
        k_dflt walk_at "my inner"
        k_steps
        exact ret0 hret (by k_asm) (by k_asm) ⟨rfl, int_val (dsum_one is b l).symm⟩
      · have b0 : Hid (¬ (l : Int) + 1 = y) := ⟨fun e => hk2 (one_seg hy e)⟩
        have c := k_seg hy b0.un hk1 hk3 hlen
        have c0 := c.1
        have b1 := Hid.mk (half_mid hy c0 hk3)
        have b2 : Hid (((l : Int) + 1 - l) * (b : Int) = (b : Int)) := ⟨one_b⟩
        have b3 : Builtin.Int.intBits (b : Int) ≤ 64 := b17_bits hb
        have b4 : Hid (b ≤ 100) := ⟨Nat.le_trans hb (by decide)⟩
        have b5 := Hid.mk (nat_abs64 (dsum_b hb hd (k - 1) (l + 1) (Nat.sub_le_sub_right hk3 1)))
        have c := Hid.mk c
        clear hy hk2
        k_dflt walk_at "my inner"
        k_steps
        refine Halt.mk ?_
        have i1 := ih (k - 1) c.un.2.2.1.1 c.un.2.2.1.2.1 c.un.2.2.1.2.2 (l + 1)
        refine call_use2 (by k_asm) (by k_asm) (by k_asm) (by k_asm) (by k_asm) (by first | exact rfl | assumption) (i1 _ _ _ _ rfl c.un.2.2.2.1 c.un.2.2.2.2) (k_room hdp c0).2 (k_units hun c0).2 ?_
        rintro r tl h2 tk2 F2 N2 o2 ⟨rfl, t2, rfl⟩
        k_steps
        refine Halt.mk ?_
        have i2 := ih 1 c.un.2.1.1 (Nat.le_refl 1) (by decide) l
        refine call_use2 (by k_asm) (by k_asm) (by k_asm) (by k_asm) (by k_asm) (by first | exact rfl | assumption) (i2 _ _ _ _ rfl rfl c.un.2.1.2) (k_room hdp c0).1 (k_units hun c0).1 ?_
        rintro r tl h3 tk3 F3 N3 o3 ⟨rfl, t3, rfl⟩
        k_steps
        refine ret0 hret (by k_asm) (by k_asm) ⟨rfl, int_val ?_⟩
        obtain ⟨j, rfl⟩ := k_suc c0
        rw [dsum_one]
        rfl
    have k1 := key ds.length (by cases ds with | nil => cases he | cons _ _ => simp) hl 0
    refine call_use2 (by k_asm) (by k_asm) (by k_asm) (by k_asm) (by k_asm) (by first | exact rfl | assumption) (k1 _ _ _ _ rfl (by (first | lia | omega)) (by (first | lia | omega))) (by ktr_room) (by ktr_units) ?_
    rintro r tl h3 tk3 F3 N3 _ ⟨rfl, t3, rfl⟩
    subst hR0
    k_steps
    exact hret _ _ _ _ _ (by k_asm) (nest_out (by k_asm)) (nest_off ab (lf' (L' + 1, o3) (by simp)) fun q hq => lp' q hq (L' + 1, o3) (by simp)) ⟨nest_made hc' d1' d2', _, rfl⟩
end

section
open PyProof.Rows.LCg
section
variable {prog : Program} {w : World} {A : Around} {E : Value → Shared → Prop} {s : Shared} {h₀ : Heap} {L l : Addr} {m : Str → Option Value} {news : Led}
theorem mul_zeros {v : Value} {n : Nat} {x : Int} {u : Tok} {z : Nat} {Q : Value → Shared → Prop} (F : Fr h₀ L s.heap m) (N : News h₀ L s.heap news) (hm : (l, W.listOf #[v] n) ∈ news) (hx : x = ((z : Nat) : Int)) (hz : z ≤ 100)
    (h : ∀ D h', Fr h₀ L h' m → News h₀ L h' ((D, W.listOf (List.replicate z v).toArray 0) :: news) → (∀ p ∈ news, p.1 < D) → Q (.ref D) { s with heap := h' }) : wpAny (model prog w) A (binaryOp .Mult (.ref l) (.int x u)) Q E s := by
  subst hx
  refine KMa.mul (vs := [v]) (ws := List.replicate z v) F N (isList_of N hm) (by omega) (by omega) (by simp; omega) ?_ h
  rw [Int.toNat_natCast]
  clear h hz
  induction z with
  | zero => rfl
  | succ z ih => rw [List.replicate_succ, List.flatten_cons, ih, List.replicate_succ]; rfl
end
theorem nat_low (n k : Nat) : n &&& (n / 2 ^ k * 2 ^ k) = n / 2 ^ k * 2 ^ k := by
  rw [← Nat.shiftRight_eq_div_pow, ← Nat.shiftLeft_eq]
  apply Nat.eq_of_testBit_eq
  intro i
  rw [Nat.testBit_and, Nat.testBit_shiftLeft, Nat.testBit_shiftRight]
  by_cases h : k ≤ i
  · rw [show k + (i - k) = i by omega]; simp [h]
  · simp [h]
theorem xor_low {a : Int} (ha : 0 ≤ a) : Builtin.bitXor a (a.fdiv (2 ^ 17) * 2 ^ 17) = a % 131072 := by
  have e : a.fdiv (2 ^ 17) = a / 131072 := Int.fdiv_eq_ediv_of_nonneg _ (by decide)
  have e17 : ((2 : Int) ^ 17) = 131072 := by decide
  rw [e, e17, bitXor_and, bitAnd_pp ha (by omega)]
  have h1 : (a / 131072 * 131072).toNat = a.toNat / 2 ^ 17 * 2 ^ 17 := by
    have e17n : ((2 : Nat) ^ 17) = 131072 := by decide
    rw [e17n]; omega
  rw [h1, nat_low, ← h1]
  omega
theorem div_low {a : Int} : a.fdiv (2 ^ 17) = a / 131072 := Int.fdiv_eq_ediv_of_nonneg _ (by decide)
theorem callT_use {w : World} {f : Addr} {vs : List Value} {P : Addr} {tab : Obj} {rest led : Led} {D : Nat} {Out : Led → Obj → Value → Prop} (C : CallSpecT w f vs P tab rest D Out) {p : Program} {loose : List Str} {mean : ExcName → Option Value} {mg mb : Str → Option Value}
    {dp un : Nat} {gd : Option (List Code)} {cn : Str} {cs : Scope} {a : Addr} {ccd : Value} {cl : List (Str × Addr)} {outer : List Env} {A₀ : Around} {base h₀ : Heap} {L : Addr} {m : Str → Option Value} {s : Shared} {Q E : Value → Shared → Prop}
    (B : Below A₀ base outer h₀) (F : Fr h₀ L s.heap m) (X : (KK w.params).In h₀) (N : News h₀ L s.heap led) (hs : ∀ p ∈ (P, tab) :: rest, p ∈ led) (T : Top p loose mean mg mb h₀) (hk : cs.kind = .function)
    (hd : dp + D < recursionLimit) (hu : un + 8 * D < cLine)
    (ret : ∀ r led' tl tab' h' tk', Fr h₀ L h' m → News h₀ L h' led' → led' = tl ++ (P, tab') :: rest → (∀ q ∈ (P, tab') :: rest, ∀ p ∈ tl, q.1 ≠ p.1) → Out tl tab' r → Q r { s with heap := h', toks := tk' }) :
    wpAny (model MyProg w) (ktrTop dp un gd cn cs L a ccd cl outer) (call (.ref f) vs) Q E s :=
  C p loose mean mg mb dp un gd cn cs a ccd cl outer A₀ base h₀ L m s Q E B F X (news_sub N hs) T hk hd hu fun r tl tab' h' tk' F' N' ap o => ret r _ tl tab' h' tk' F' N' rfl ap o
section
variable {prog : Program} {w : World} {A : Around} {E : Value → Shared → Prop} {s : Shared}
theorem xor_use {x y r : Int} {t u : Tok} {Q : Value → Shared → Prop} (e : Hid (Builtin.bitXor x y = r)) (h : ∀ t tk, Q (.int r t) { s with toks := tk }) : wpAny (model prog w) A (binaryOp .BitXor (.int x t) (.int y u)) Q E s :=
  xor_int (by rw [e.un]; exact h _ _)
end
/-- the list with k digits of x laid in from place l on -/
def dput : Nat → List Int → Nat → Int → List Int
  | 0, is, _, _ => is
  | 1, is, l, x => is.set l x
  | k + 2, is, l, x => dput (k + 1) (is.set l (x % 131072)) (l + 1) (x / 131072)
section
variable {h₀ h : Heap} {L : Addr} {x y a b c f q : Addr × Obj} {pre rest : Led}
theorem zeros_are (z : Nat) (u : Tok) : IntsAre (List.replicate z (.int 0 u)) (List.replicate z 0) := by
  induction z with
  | zero => exact .nil
  | succ z ih => exact .cons _ _ ih
theorem i2d_p1 {D : Addr} {z : Nat} {u : Tok} (N : News h₀ L h ((D, W.listOf (List.replicate z (.int 0 u)).toArray 0) :: y :: a :: b :: c :: q :: rest)) :
    ∃ its : List Value, IntsAre its (List.replicate z 0) ∧ its.length = z ∧ News h₀ L h (b :: (D, W.listOf its.toArray 0) :: a :: c :: q :: rest) :=
  ⟨_, zeros_are z u, List.length_replicate, news_sub N fun p hp => by simp only [List.mem_cons] at hp ⊢; grind⟩
theorem tl_is {S : Led} (N : News h₀ L h (x :: S)) : ∃ S', S' = S ∧ News h₀ L h (x :: S') := ⟨_, rfl, N⟩
theorem i2d_mem {S : Led} (e : S = a :: f :: b :: c :: (pre ++ q :: rest)) : a ∈ S ∧ f ∈ S ∧ b ∈ S ∧ c ∈ S ∧ ∀ p ∈ pre ++ rest, p ∈ S := by
  subst e
  refine ⟨by simp, by simp, by simp, by simp, fun p hp => ?_⟩
  rcases List.mem_append.mp hp with hp | hp <;> simp [hp]
theorem i2d_ne {c f D b d P : Addr} {pre rest : Led} (h1 : f ≠ c) (h2 : D ≠ c) (h3 : b ≠ c) (h4 : d ≠ c) (h5 : ∀ p ∈ pre, p.1 ≠ c) (h6 : P ≠ c) (h7 : ∀ p ∈ rest, p.1 ≠ c) (of oD ob od ot : Obj) : ∀ p ∈ (f, of) :: (D, oD) :: (b, ob) :: (d, od) :: (pre ++ (P, ot) :: rest), p.1 ≠ c := by
  intro p hp
  simp only [List.mem_cons, List.mem_append] at hp
  rcases hp with rfl | rfl | rfl | rfl | hp | rfl | hp
  · exact h1
  · exact h2
  · exact h3
  · exact h4
  · exact h5 p hp
  · exact h6
  · exact h7 p hp
theorem i2d_off {P L f D : Addr} {tab of o1 o2 o3 oD : Obj} {pre rest : Led} (ab : Above L P rest) (hf : @LT.lt Nat _ L f) (hD : @LT.lt Nat _ L D) (hp : ∀ q ∈ pre, @LT.lt Nat _ L q.1) :
    ∀ q ∈ (P, tab) :: rest, ∀ p ∈ (f, of) :: (pre ++ [(D, oD), (L + 1 + 1 + 1, o1), (L + 1 + 1, o2), (L + 1, o3)]), q.1 ≠ p.1 :=
  apart_of ab fun p h => by
    simp only [List.mem_cons, List.mem_append, List.not_mem_nil, or_false] at h
    rcases h with rfl | h | rfl | rfl | rfl | rfl
    · exact hf
    · exact hp p h
    · exact hD
    all_goals (show @LT.lt Nat _ L _; omega)
theorem i2d_p2 (N : News h₀ L h (f :: (pre ++ b :: x :: a :: c :: q :: rest))) : News h₀ L h (a :: f :: x :: b :: c :: (pre ++ q :: rest)) := news_sub N fun p hp => by simp only [List.mem_cons, List.mem_append] at hp ⊢; grind
theorem i2d_p3 (N : News h₀ L h (a :: f :: x :: b :: c :: (pre ++ q :: rest))) : News h₀ L h (x :: a :: f :: b :: c :: (pre ++ q :: rest)) := news_sub N fun p hp => by simp only [List.mem_cons, List.mem_append] at hp ⊢; grind
theorem i2d_out (N : News h₀ L h (x :: a :: f :: b :: c :: (pre ++ q :: rest))) : News h₀ L h ((f :: (pre ++ [x, a, b, c])) ++ q :: rest) := news_sub N fun p hp => by simp only [List.mem_cons, List.mem_append, List.cons_append, List.append_assoc] at hp ⊢; grind
end
theorem e_low {e : Int} : 0 ≤ e % 131072 ∧ e % 131072 < 2 ^ 60 := ⟨Int.emod_nonneg _ (by decide), Int.lt_trans (Int.emod_lt_of_pos _ (by decide)) (by decide)⟩
theorem e_high {e : Int} (h0 : 0 ≤ e) (h1 : e < 2 ^ 60) : 0 ≤ e / 131072 ∧ e / 131072 < 2 ^ 60 := ⟨Int.ediv_nonneg h0 (by decide), Int.lt_of_le_of_lt (Int.ediv_le_self _ h0) h1⟩
theorem i_seg {l k n : Nat} (hl : l + k ≤ n) (h1 : 1 ≤ k) (h3 : n ≤ 3) : ((l : Nat) : Int) < 2 ^ 63 ∧ ((l : Nat) : Int) < (n : Int) := by omega
theorem k_suc2 {k : Nat} (h : 2 ≤ k) : ∃ j, k = j + 2 := ⟨k - 2, by omega⟩
theorem one_17 {x : Int} : (x + 1 - x) * 17 = ((17 : Nat) : Int) := by omega
theorem lines_MNestI : True := by
  k_with_none
  k_with "my mem" => (first | assumption | k_mem)
  k_with "my kmem" => (first | assumption | (refine List.mem_append_right _ ?_; k_mem) | (refine List.mem_cons_of_mem _ ?_; k_mem))
  k_with "my kmem" => (exact List.mem_cons_self ..)
  k_with "subscriptTail Name Name ref int" => (walk_at "my item")
  k_with "subscriptTail Name Constant ref int" => (walk_at "my item")
  k_with "my item" => ((with_reducible show wpAny _ _ (subscriptTail _ _ (Value.ref _) (Value.int _ _)) _ _ _); k_dflt (refine item_led (by k_asm) (by walk_at "my mem") (by first | decide | with_reducible assumption | omega) (by first | decide | with_reducible assumption | omega) (by first | with_reducible assumption | exact rfl) ?_ (by with_unfolding_all rfl); k_whole))
  k_with "call builtin:len" => (k_here; (with_reducible show wpAny _ _ (call (Value.builtin "len") [Value.ref _]) _ _ _); k_dflt (refine len_led (by k_asm) (by walk_at "my mem") (by first | assumption | exact rfl) (by first | with_reducible assumption | omega) ?_; k_whole); intro t' k')
  k_with "my for" => (k_here; (rename Fr _ _ _ _ => lF'); (with_unfolding_all refine For_turns lF' ?_; k_whole))
  k_with "my frame" => (repeat' (first | exact OffStored.base | exact OffStored.refl _ _ | refine OffStored.put (by decide) ?_))
  k_with "my append" => (k_here; k_dflt (show wpAny _ _ (call (Value.builtin "list.append") [Value.ref _, _]) _ _ _); k_dflt (refine append_led (by k_asm) (by k_asm) (by walk_at "my mem") ?_ (by first | assumption | size_fits)); intro h' F' N')
  k_with "my div" => (k_here; (with_reducible show wpAny _ _ (binaryOp _ (Value.int _ _) (Value.float _ _)) _ _ _); k_dflt (refine div_if (by exact rfl) (by first | assumption | omega) (by decide +kernel) ?_; k_whole))
  k_with "my join" => (refine JoinP.of (by k_asm) (by k_asm) (by (intro y hy; first | rfl | exact if_neg hy)) ?_)
  k_with "storeName" => (k_here; (try dsimp only); k_dflt (refine storeX_L (by k_asm) (by k_asm) ?_ (by rfl) (by rfl); k_whole; intro h' F' N'; (try k_sweep)))
  k_with "my enterC" => (refine code_defC (by k_asm) (by k_asm) (by k_asm) (by k_asm) (by k_asm) (by exact rfl) (by exact rfl) (by assumption) (by k_is) (by k_is) (by ktr_room) (by exact BindsTo.of_eq rfl) (by exact rfl) (by decide +kernel) ?_ (by exact rfl) (by exact rfl) (by exact rfl); k_whole; intro g' L' h' tk' cells' FG' F' N' Y' B' X' T' l1; k_cells Y'; (try simp only [List.cons_append, List.nil_append] at N'); (try dsimp only); (try k_lift B'); (try k_fold))
  k_with "setItem ref int" => (k_here; k_dflt (refine set_led (by k_asm) (by k_asm) (by walk_at "my mem") (by first | assumption | omega) (by first | assumption | omega) (by first | assumption | omega) ?_; k_whole); intro h' F' N')
  k_with "my tup" => ((with_reducible show wpAny _ _ (subscriptTail _ _ (Value.ref _) (Value.int _ _)) _ _ _); k_dflt (refine tup_led (by k_asm) (by walk_at "my mem") (by first | decide | with_reducible assumption | omega) (by first | decide | with_reducible assumption | omega) (by first | with_reducible assumption | exact rfl) ?_ (by with_unfolding_all rfl); k_whole))
  k_with "my comp" => (k_here; k_dflt (refine PyProof.Rows.LCg.CompSrc.ledger (by rfl) (by k_asm) (by k_asm) (by walk_at "my mem") (by first | assumption | size_fits | exact Nat.le_of_ble_eq_true rfl) ?_); intro g'; refine Halt.go ?_)
  k_with "my str.join" => (k_here; k_dflt (show wpAny _ _ (call (Value.builtin "str.join") [Value.str _ _, Value.ref _]) _ _ _); k_dflt (refine join_led (by k_asm) (by walk_at "my mem") (by assumption) (by assumption) (by assumption) (by decide +kernel) ?_); intro t' k')
  k_with "my free" => (k_here; (with_reducible show wpAny _ _ (eval (Expr.Name _ _) (compEnvC _ _ _ _)) _ _ _); k_dflt (refine ld_free (by rfl) (by k_asm) (by rfl) (by assumption) (by assumption) ?_))
  trivial

theorem more_MNestI_1 : True := by
  k_with "my all" => (with_reducible assumption)
  k_with "my updF" => (first | exact UpdF.head (by with_reducible assumption) | exact UpdF.head (x2 _ _ _ _ _) | exact UpdF.tail (by with_unfolding_all assumption) (UpdF.tail (by with_unfolding_all assumption) (UpdF.tail (by with_unfolding_all assumption) (UpdF.tail (by with_unfolding_all assumption) (UpdF.head (by assumption))))))
  k_with "truthy ref" => (k_here; (with_reducible show wpAny _ _ (truthy (Value.ref _)) _ _ _); k_dflt (refine truthy_any (by k_asm) (by k_mem) (by assumption) ?_))
  k_with "binaryOp RShift int int" => (k_here; first | (refine shr_use (by with_reducible assumption) ?_) | (refine shrb_use (by with_reducible assumption) (by with_reducible assumption) ?_); intro t' tk')
  k_with "binaryOp LShift int int" => (k_here; (refine shl_use (by with_reducible assumption) (by with_reducible assumption) (by with_reducible assumption) ?_); intro t' tk')
  k_with "compareOp Eq int int" => (first | refine cmp_t (by with_reducible assumption) ?_ | refine cmp_f (by with_reducible assumption) ?_)
  k_with "exec FunctionDef" => (k_here; k_dflt (refine nestDef_K (by exact rfl) (by exact rfl) (by exact rfl) ?_); k_dflt (refine nest_any (by k_asm) (by k_asm) (by k_asm) (by assumption) (by exact rfl) (by k_updF) (by assumption) (by exact rfl) ?_; k_whole); intro f' c' oc' vs' t' ct' dc' pre' h' tk' F' N' hc' d1' d2' lp' lf'; (try dsimp only at N'); refine Halt.go ?_)
  k_with "my inner" => (refine wpAny_call ?_; (apply code_nest; (case hA => exact rfl); (case hf => exact rfl); (case hke => first | exact rfl | assumption); (case B => k_asm); (case F => k_asm); (case X₀ => k_asm); (case N => k_asm); (case T => k_asm); (case ho => k_mem); (case hcd => exact codeRec_news (by k_asm) (by k_mem) (by assumption) (by assumption)); (case hroom => ktr_room); (case hbind => exact BindsTo.of_eq rfl); (case hcell => decide); (case hloc => exact locs rfl); (case hco => exact rfl); (case hgen => exact rfl); (case hk => exact rfl); k_whole; intro g' L' h' FG' F' N' B' X' T'; (try dsimp only); (try k_lift B'); (try k_fold)))
  k_with "call ref" => (k_here; (with_reducible show wpAny _ _ (call (Value.ref _) _) _ _ _); refine Halt.go ?_)
  k_with "binaryOp Mult ref int" => (k_here; (with_reducible show wpAny _ _ (binaryOp Operator.Mult (Value.ref _) (Value.int _ _)) _ _ _); k_dflt (refine mul_zeros (by k_asm) (by k_asm) (by k_mem) (by with_reducible assumption) (by omega) ?_); intro D' h' F' N' l'; (try k_lt l'); refine Halt.go ?_)
  k_with "binaryOp BitXor int int" => ((refine xor_use (by with_reducible assumption) ?_); intro t' tk')
  trivial
abbrev qI2D : Str := Str.ofString "_int2digits.<locals>.inner"
theorem i2d_any (w : World) (rest : Led) (tab : Obj) (hP : ∀ p ∈ rest, p.1 ≠ 30) (hT : MkTab 32 4 qI2D tab rest) (a : Int) (ta tn : Tok) (z : Nat) (hz3 : z ≤ 3) (ha : 0 ≤ a) (ha2 : a < 2 ^ 60)
   (hbits : (((Builtin.Int.intBits a : Nat) : Int) + 17 - 1).fdiv 17 = ((z : Nat) : Int)) (hz0 : a = 0 ↔ z = 0) :
   CallSpecT w 35 [.int a ta, .int 17 tn] 30 tab rest 6 (fun tl tab' r => GotTab 32 4 qI2D tab tab' tl rest ∧ ∃ (D : Addr) (its : List Value), r = .ref D ∧ (D, W.listOf its.toArray 0) ∈ tl ∧ IntsAre its (dput z (List.replicate z 0) 0 a)) := by
  w_on
  intro p loose mean mg mb dp un gd cn cs a' ccd cl outer A₀ base h₀ L m s Q E B F X N T hk hdp hun hret
  refine wpAny_call ?_
  k_dflt walk_at "my enterC"
  rename Frag.In _ _ => X1
  have hcd := codeHd_of_K (c := 34) (P := 30) X1 (by kernel_rfl)
  rename_i o1 o2 o3 d1 d2 d3
  replace d1 := data_cell d1 (y := Data.cell none) (by with_unfolding_all rfl)
  replace d2 := data_cell d2 (y := Data.cell none) (by with_unfolding_all rfl)
  replace d3 := data_cell d3 (y := Data.cell (some (Value.int 17 tn))) (by with_unfolding_all rfl)
  obtain ⟨lt2, lt3⟩ := allLt_of l1
  have lt4 : 30 < L' := lt2
  have ab := Above.mk lt4 lt3
  k_steps
  refine Halt.mk ?_
  obtain ⟨lt5, lt6, lt7, lt8, lt9, lt10⟩ := l'
  obtain ⟨its, hits, hitl, N2⟩ := i2d_p1 N'
  clear N'
  have x1 : ∀ p ∈ (D', W.listOf its.toArray 0) :: (L' + 1 + 1 + 1, o1) :: (L' + 1, o3) :: (30, tab) :: rest, p.1 ≠ L' + 1 + 1 := ne_cons (by show @Ne Nat _ _; omega) (ne_cons (by show @Ne Nat _ _; omega) (ne_cons (by show @Ne Nat _ _; omega) (tab_ne ab (by show @LT.lt Nat _ _ _; omega))))
  have y1 : L' + 1 + 1 ≠ 30 := by show @Ne Nat _ _; omega
  have y2 : D' ≠ 30 := by show @Ne Nat _ _; omega
  have y3 : L' + 1 + 1 + 1 ≠ 30 := by show @Ne Nat _ _; omega
  have y4 : L' + 1 ≠ 30 := by show @Ne Nat _ _; omega
  k_steps
  refine Halt.mk ?_
  rename _ = Data.cell (some (Value.ref D')) => dD
  have N3 := i2d_p2 N'
  clear N'
  have v1 : ∀ p ∈ pre', @LT.lt Nat _ D' p.1 := fun p hp => lp' p hp (D', W.listOf its.toArray 0) (by simp)
  have v2 : @LT.lt Nat _ D' f' := lf' (D', W.listOf its.toArray 0) (by simp)
  have v3 : ∀ p ∈ rest, @LT.lt Nat _ p.1 L' := fun p hp => ktn_ltOf lt3 p hp
  have x2 := i2d_ne (c := L' + 1 + 1 + 1) (f := f') (D := D') (b := L' + 1 + 1) (d := L' + 1) (P := 30) (pre := pre') (rest := rest) (by show @Ne Nat _ _; omega) (by show @Ne Nat _ _; omega) (by show @Ne Nat _ _; omega) (by show @Ne Nat _ _; omega) (fun p hp => Nat.ne_of_gt (Nat.lt_trans (by omega) (v1 p hp))) (by show @Ne Nat _ _; omega) (fun p hp => Nat.ne_of_lt (Nat.lt_trans (v3 p hp) (by omega)))
  have hz : its.length = z := hitl
  have hz62 : z < 2 ^ 62 := by omega
  k_steps
  · refine Halt.mk ?_
    rename ¬ a = 0 => ha0
    rename News _ _ _ _ => N4
    rename _ = Data.cell (some (Value.ref f')) => dR
    obtain ⟨S0, hS0, N5⟩ := tl_is (i2d_p3 N4)
    clear N4
    obtain ⟨m3, mf, m2, m1, hR⟩ := i2d_mem hS0
    have mc := hR _ (way_mem hc')
    have x3 : ∀ p ∈ S0, p.1 ≠ D' := hS0 ▸ i2d_ne (c := D') (f := L' + 1 + 1 + 1) (D := f') (b := L' + 1 + 1) (d := L' + 1) (P := 30) (pre := pre') (rest := rest) (by show @Ne Nat _ _; omega) (by show @Ne Nat _ _; omega) (by show @Ne Nat _ _; omega) (by show @Ne Nat _ _; omega) (fun p hp => Nat.ne_of_gt (v1 p hp)) (by show @Ne Nat _ _; omega) (fun p hp => Nat.ne_of_lt (Nat.lt_trans (v3 p hp) (by omega))) _ _ _ _ _
    have key : ∀ (k : Nat), 1 ≤ k → k ≤ 3 → ∀ (l : Nat) (e x y : Int) (te tx ty : Tok) (its : List Value) (is : List Int), x = (l : Int) → y = x + (k : Int) → l + k ≤ its.length → its.length ≤ 3 → 0 ≤ e → e < 2 ^ 60 → IntsAre its is →
        CallSpecT w f' [.int e te, .int x tx, .int y ty] D' (W.listOf its.toArray 0) S0 k (fun tl tab' r => tl = [] ∧ ∃ its' : List Value, tab' = W.listOf its'.toArray 0 ∧ its'.length = its.length ∧ IntsAre its' (dput k is l e)) := by
      intro k
      induction k using Nat.strongRecOn with
      | _ k ih =>
      intro hk1 hk3 l e x y te tx ty its is hx hy hlen hl3 he0 he1 hi p loose mean mg mb dp un gd cn cs a ccd cl outer A₀ base h₀ L m s Q E B F X N T hk hdp hun hret
      subst hx
      have a0 : (0 : Int) ≤ (l : Nat) := Int.natCast_nonneg l
      obtain ⟨a1, a2⟩ := i_seg hlen hk1 hl3
      by_cases hk2 : k = 1
      · subst hk2
        have b0 : Hid ((l : Int) + 1 = y) := ⟨hy.symm⟩
        clear hy
        k_dflt walk_at "my inner"
        k_steps
        rename News _ _ _ _ => N6
        exact hret _ [] _ _ _ (by k_asm) N6 (fun _ _ _ h => nomatch h) ⟨rfl, _, rfl, List.length_set, ints_set hi l⟩
      · have b0 : Hid (¬ (l : Int) + 1 = y) := ⟨fun e => hk2 (one_seg hy e)⟩
        have c := k_seg hy b0.un hk1 hk3 hlen
        have c0 := c.1
        have b1 := Hid.mk (half_mid hy c0 hk3)
        have b2 : Hid (((l : Int) + 1 - l) * 17 = ((17 : Nat) : Int)) := ⟨one_17⟩
        have b3 : Hid (e.fdiv (2 ^ 17) = e / 131072) := ⟨div_low⟩
        have b4 : Hid ((17 : Nat) ≤ 100) := ⟨by decide⟩
        have e2 := e_high he0 he1
        have b5 := Hid.mk (nat_abs64 e2)
        have b6 : Hid (Builtin.bitXor e (e / 131072 * 2 ^ 17) = e % 131072) := ⟨by rw [← div_low]; exact xor_low he0⟩
        have c := Hid.mk c
        have e2 := Hid.mk e2
        clear hy hk2 he0 he1
        k_dflt walk_at "my inner"
        k_steps
        refine Halt.mk ?_
        have i1 := ih 1 c.un.2.1.1 (Nat.le_refl 1) (by decide) l (e % 131072)
        rename News _ _ _ _ => N6
        refine callT_use (i1 _ _ _ _ _ its is rfl rfl c.un.2.1.2 hl3 e_low.1 e_low.2 hi) (by k_asm) (by k_asm) (by k_asm) N6 (fun p hp => hp) (by k_asm) (by first | exact rfl | assumption) (k_room hdp c0).1 (k_units hun c0).1 ?_
        rintro r _ tl tab' h2 tk2 F2 N7 rfl _ ⟨rfl, its2, rfl, el2, hi2⟩
        clear N6
        k_steps
        refine Halt.mk ?_
        have i2 := ih (k - 1) c.un.2.2.1.1 c.un.2.2.1.2.1 c.un.2.2.1.2.2 (l + 1) (e / 131072)
        refine callT_use (i2 _ _ _ _ _ its2 _ rfl c.un.2.2.2.1 (by rw [el2]; exact c.un.2.2.2.2) (by rw [el2]; exact hl3) e2.un.1 e2.un.2 hi2) (by k_asm) (by k_asm) (by k_asm) N7 (fun p hp => hp) (by k_asm) (by first | exact rfl | assumption) (k_room hdp c0).2 (k_units hun c0).2 ?_
        rintro r _ tl tab' h3 tk3 F3 N8 rfl _ ⟨rfl, its3, rfl, el3, hi3⟩
        clear N7
        k_steps
        obtain ⟨j, rfl⟩ := k_suc2 c0
        rename News h₀ L _ _ => N9
        exact hret _ [] _ _ _ (by k_asm) N9 (fun _ _ _ h => nomatch h) ⟨rfl, _, rfl, el3.trans el2, hi3⟩
    have k1 := key z (by omega) hz3 0 a
    refine callT_use (k1 _ _ _ _ _ its _ (by rfl) (by omega) (by omega) (by omega) ha ha2 hits) (by k_asm) (by k_asm) (by k_asm) N5 (fun p hp => hp) (by k_asm) (by first | exact rfl | assumption) (by ktr_room) (by ktr_units) ?_
    rintro r _ tl tab' h3 tk3 F3 N8 rfl _ ⟨rfl, its3, rfl, el3, hi3⟩
    clear N5
    k_steps
    subst hS0
    rename News h₀ L _ _ => N9
    exact hret _ _ _ _ _ (by k_asm) (i2d_out N9) (i2d_off ab (by omega) (by omega) fun q hq => Nat.lt_trans (by omega) (v1 q hq)) ⟨nest_made hc' d1' d2', D', its3, rfl, by simp, hi3⟩
  · rename a = 0 => ha0
    have hz' := hz0.mp ha0
    rename News h₀ L _ _ => N9
    refine hret _ _ _ _ _ (by k_asm) (i2d_out (i2d_p3 N9)) (i2d_off ab (by omega) (by omega) fun q hq => Nat.lt_trans (by omega) (v1 q hq)) ⟨nest_made hc' d1' d2', D', its, rfl, by simp, ?_⟩
    rw [hz'] at hits ⊢
    exact hits
end

section
open PyProof.Rows.LCg
/-- the contract of a def whose run writes both tables -/
abbrev CallSpecM (w : World) (f : Addr) (vs : List Value) (t30 t37 : Obj) (rest : Led) (D : Nat) (Out : Led → Obj → Obj → Value → Prop) : Prop :=
  ∀ (p : Program) (loose : List Str) (mean : ExcName → Option Value) (mg mb : Str → Option Value)
    (dp un : Nat) (gd : Option (List Code)) (cn : Str) (cs : Scope) (a : Addr) (ccd : Value) (cl : List (Str × Addr)) (outer : List Env) (A₀ : Around) (base h₀ : Heap) (L : Addr) (m : Str → Option Value) (s : Shared) (Q E : Value → Shared → Prop),
    Below A₀ base outer h₀ → Fr h₀ L s.heap m → (KK w.params).In h₀ → News h₀ L s.heap ((30, t30) :: (37, t37) :: rest) → Top p loose mean mg mb h₀ → cs.kind = .function →
    dp + D < recursionLimit → un + 8 * D < cLine →
    (∀ r tl t30' t37' h' tk', Fr h₀ L h' m → News h₀ L h' (tl ++ (30, t30') :: (37, t37') :: rest) → (∀ q ∈ (30, t30') :: (37, t37') :: rest, ∀ p ∈ tl, q.1 ≠ p.1) → Out tl t30' t37' r → Q r { s with heap := h', toks := tk' }) →
      wpAny (model MyProg w) (ktrTop dp un gd cn cs L a ccd cl outer) (call (.ref f) vs) Q E s
abbrev tup2 (x y : Int) (t0 t1 : Tok) : Obj := { cls := .type "tuple", data := .seq #[.int x t0, .int y t1] }
def Tabs2 (t30 t37 : Obj) (led : Led) : Prop := MkTab 32 4 qI2D t30 led ∧ Made 47 4 qD2I t37 led
/-- the tables behind a call: as they were, or the first freshly filled -/
abbrev Kept (t30 t37 : Obj) (tl : Led) (t30' t37' : Obj) : Prop := (Made 32 4 qI2D t30' tl ∨ t30' = t30) ∧ t37' = t37
theorem Tabs2.mono {t30 t37 : Obj} {l l' : Led} (h : Tabs2 t30 t37 l) (hs : ∀ p ∈ l, p ∈ l') : Tabs2 t30 t37 l' := by
  obtain ⟨h1, c, oc, vs, t, e, hm, h2, h3⟩ := h
  exact ⟨h1.mono hs, c, oc, vs, t, e, hs _ hm, h2, h3⟩
theorem Kept.mono {t30 t37 t30' t37' : Obj} {l l' : Led} (h : Kept t30 t37 l t30' t37') (hs : ∀ p ∈ l, p ∈ l') : Kept t30 t37 l' t30' t37' := ⟨h.1.imp (fun m => m.mono hs) id, h.2⟩
theorem Kept.tabs {t30 t37 t30' t37' : Obj} {l K : Led} (h : Kept t30 t37 l t30' t37') (hT : Tabs2 t30 t37 K) : Tabs2 t30' t37' (l ++ K) := by
  obtain ⟨h1, rfl⟩ := h
  refine ⟨?_, hT.2.mono fun p hp => List.mem_append_right _ hp⟩
  rcases h1 with h1 | rfl
  · exact Or.inr (h1.mono fun p hp => List.mem_append_left _ hp)
  · exact hT.1.mono fun p hp => List.mem_append_right _ hp
theorem news_dup {h₀ h : Heap} {L : Addr} {led : Led} {p : Addr × Obj} (N : News h₀ L h led) (hp : p ∈ led) : News h₀ L h (p :: led) := fun q hq => by
  rcases List.mem_cons.mp hq with rfl | hq
  · exact N _ hp
  · exact N _ hq
theorem bits_ge {a : Int} {k : Nat} (h0 : 0 ≤ a) (h : 2 ^ k ≤ a) : k + 1 ≤ Builtin.Int.intBits a := by
  have hk : (0 : Int) < 2 ^ k := Int.pow_pos (by decide)
  unfold Builtin.Int.intBits
  split
  · rename_i h1
    have h2 : a = 0 := by simpa using h1
    (first | lia | omega)
  · have h1 : a.natAbs ≠ 0 := by (first | lia | omega)
    have h2 : 2 ^ k ≤ a.natAbs := by
      have e : ((a.natAbs : Nat) : Int) = a := by (first | lia | omega)
      have : ((2 ^ k : Nat) : Int) ≤ ((a.natAbs : Nat) : Int) := by rw [e]; push_cast; exact h
      exact_mod_cast this
    have := (Nat.le_log2 h1).mpr h2
    (first | lia | omega)
section
open PyProof.V
variable {prog : Program} {w : World} {A : Around} {E : Value → Shared → Prop} {s : Shared} {env : Env} {h₀ : Heap} {body : List Stmt} {Q : Flow → Shared → Prop}
theorem rev_turns {x : Str} {px : Pos} {ax I : Addr} {its : List Value} {nn : Nat} {m₀ : Str → Option Value} {news : Led} (J : Nat → (Str → Option Value) → Led → Prop)
    (hh : A.handled = none) (F : Fr h₀ env.locals s.heap m₀) (N : News h₀ env.locals s.heap ((I, revObj ax ((its.length : Int) - 1)) :: news)) (hI : ∀ p ∈ news, p.1 ≠ I) (hm : (ax, W.listOf its.toArray nn) ∈ news) (h0 : J 0 m₀ news)
    (turn : ∀ (i : Nat) v m₁ news₁ h₁ tk₁ own, i < its.length → its[its.length - 1 - i]? = some v → J i m₁ news₁ → (∀ p ∈ news₁, p.1 ∉ [I]) → (∀ p ∈ own, p.1 ∈ [I, ax]) → (∃ o, (I, o) ∈ own) → Fr h₀ env.locals h₁ m₁ → News h₀ env.locals h₁ (own ++ news₁) →
      wpAny (model prog w) A (assign (.Name x px) env v) (fun _ s₃ => wpAny (model prog w) A (execs body env) (TEnd h₀ env.locals [I] own (J (i + 1)) { s with heap := h₁, toks := tk₁ } Q) E s₃) E { s with heap := h₁, toks := tk₁ })
    (fin : ∀ h' tk m' news', Fr h₀ env.locals h' m' → News h₀ env.locals h' news' → J its.length m' news' → Q .next { s with heap := h', toks := tk }) :
    wpAny (model prog w) A (pyIter (.ref I)) (fun it s₂ => TurnsAt prog w A h₀ env (.Name x px) body Q E it s₂) E s := by
  have hIx := N _ (List.mem_cons_self ..)
  have hax := N _ (List.mem_cons_of_mem _ hm)
  have hl : s.heap.IsList ax its.toArray := ⟨_, hax.1, rfl, nn, rfl⟩
  have hne : ax ≠ I := hI _ hm
  have hit : s.heap.IsRevIter I ax ((its.length : Int) - 1) := ⟨_, hIx.1, rfl, rfl⟩
  refine wpAny_pyIter_revIter hit ?_
  have hlen : its.toArray.size = its.length := by simp
  refine ⟨I, [I, ax], [I], its.toArray.size, _, _, _, m₀, news, J, rfl, KTurns.ofWalks (Walks.listRev hh I ax hne its.toArray) (fun i v s Q E st q => letGo_name q), ?_, ?_, ?_, ⟨Nat.zero_le _, ?_, hl⟩, F, (fun p hp => N p (List.mem_cons_of_mem _ hp)), h0, ?_, ?_⟩
  · intro hmm
    rcases List.mem_cons.mp hmm with e | hmm
    · exact hIx.2.1 e.symm
    · exact hax.2.1 (List.mem_singleton.mp hmm).symm
  · intro b hb
    rw [List.mem_singleton.mp hb]
    exact hIx.2.2
  · intro p hp hI'
    exact hI p hp (List.mem_singleton.mp hI')
  · have e : ((its.toArray.size : Nat) : Int) - 1 - ((0 : Nat) : Int) = (its.length : Int) - 1 := by simp
    rw [e]; exact hit
  · rintro i v m₁ news₁ h₁ tk₁ own hin hP hJ hoff hown _ hall st F₁ N₁
    obtain ⟨oI, hoI, _⟩ := st.2.1
    rw [hlen] at hin
    refine turn i v m₁ news₁ h₁ tk₁ own hin ?_ hJ hoff hown ⟨_, hall _ (List.mem_cons_self ..) hIx.2.2 _ hoI⟩ F₁ N₁
    rw [hlen] at hP
    simpa using hP
  · intro h' tk m' news' F' N' _ hJ
    exact fin h' tk m' news' F' N' (hlen ▸ hJ)
end
/-- quotient digits (top first) and rest behind i turns -/
def qr (ds : List Int) : Nat → List Int × Int
  | 0 => ([], 0)
  | i + 1 => ((qr ds i).1 ++ [((qr ds i).2 * 131072 + ds.getD (ds.length - 1 - i) 0).fdiv 65793], ((qr ds i).2 * 131072 + ds.getD (ds.length - 1 - i) 0).fmod 65793)
theorem qr_b (ds : List Int) (i : Nat) : 0 ≤ (qr ds i).2 ∧ (qr ds i).2 < 65793 := by
  cases i with
  | zero => exact ⟨Int.le_refl _, by show (0 : Int) < 65793; decide⟩
  | succ i => exact fmod_b _ (by decide)
theorem qr_len (ds : List Int) (i : Nat) : (qr ds i).1.length = i := by
  induction i with
  | zero => rfl
  | succ i ih => simp [qr, ih]
def PV (Dq : Addr) (rest : Led) (m₀ : Str → Option Value) (ds : List Int) (i : Nat) (m : Str → Option Value) (led : Led) : Prop :=
  (∃ (m2 : Str → Option Value) (t : Tok), OffStored ["a_digit", "q_digit", "r"] m₀ m2 ∧ m = fun y : Str => if y = "r" then some (.int (qr ds i).2 t) else m2 y) ∧ ∃ (qs : List Value) (n : Nat), led = (Dq, W.listOf qs.toArray n) :: rest ∧ IntsAre qs (qr ds i).1
theorem PV.start {Dq : Addr} {rest : Led} {m₀ : Str → Option Value} {ds : List Int} {t : Tok} (h : m₀ "r" = some (.int 0 t)) : PV Dq rest m₀ ds 0 m₀ ((Dq, W.listOf #[] 0) :: rest) :=
  ⟨⟨m₀, t, OffStored.refl _ _, funext fun y => by
    show m₀ y = if y = "r" then _ else m₀ y
    by_cases hy : y = "r"
    · rw [if_pos hy, hy, h]; rfl
    · rw [if_neg hy]⟩, [], 0, rfl, .nil⟩
/-- the digits, lowest first -/
def digitsOf (a : Int) : List Int := if a = 0 then [] else if a < 131072 then [a] else if a < 17179869184 then [a % 131072, a / 131072] else [a % 131072, a / 131072 % 131072, a / 131072 / 131072]
theorem digits_b {a : Int} (ha : 0 ≤ a) (ha2 : a < 1125899906842624) : ∀ d ∈ digitsOf a, 0 ≤ d ∧ d < 131072 := by
  intro d hd
  unfold digitsOf at hd
  split at hd
  · cases hd
  · split at hd
    · simp at hd; (first | lia | omega)
    · split at hd
      · simp at hd; rcases hd with rfl | rfl <;> (first | lia | omega)
      · simp at hd; rcases hd with rfl | rfl | rfl <;> (first | lia | omega)
theorem digits_len (a : Int) : (digitsOf a).length ≤ 3 := by
  unfold digitsOf
  repeat' (first | split | (simp; done))
def valOf : List Int → Int
  | [] => 0
  | d :: r => d + valOf r * 131072
theorem iAt_b {ds : List Int} {b : Int} (hb : 0 < b) (h : ∀ d ∈ ds, 0 ≤ d ∧ d < b) (i : Nat) : 0 ≤ iAt ds i ∧ iAt ds i < b := by
  unfold iAt
  rw [List.getD_eq_getElem?_getD]
  cases e : ds[i]? with
  | none => exact ⟨Int.le_refl _, hb⟩
  | some d => exact h d (List.mem_of_getElem? e)
theorem i2d_spec (w : World) (rest : Led) (hP : ∀ p ∈ rest, p.1 ≠ 30) (a : Int) (ta tn : Tok) (tab : Obj) (ha : 0 ≤ a) (ha2 : a < 1125899906842624) (hT : MkTab 32 4 qI2D tab rest) :
   CallSpecT w 35 [.int a ta, .int 17 tn] 30 tab rest 6 (fun tl tab' r => (Made 32 4 qI2D tab' tl ∨ tab' = tab) ∧ ∃ (D : Addr) (its : List Value), r = .ref D ∧ (D, W.listOf its.toArray 0) ∈ tl ∧ IntsAre its (digitsOf a)) := by
  have h60 : a < 2 ^ 60 := by (first | lia | omega)
  have use : ∀ z : Nat, z ≤ 3 → (((Builtin.Int.intBits a : Nat) : Int) + 17 - 1).fdiv 17 = ((z : Nat) : Int) → (a = 0 ↔ z = 0) → dput z (List.replicate z 0) 0 a = digitsOf a → _ := fun z h3 hb h0 e =>
    (i2d_any w rest tab hP hT a ta tn z h3 ha h60 hb h0).mono (Out' := fun tl tab' r => (Made 32 4 qI2D tab' tl ∨ tab' = tab) ∧ ∃ (D : Addr) (its : List Value), r = .ref D ∧ (D, W.listOf its.toArray 0) ∈ tl ∧ IntsAre its (digitsOf a))
      fun tl tab' r o => ⟨o.1.imp And.right And.left, e ▸ o.2⟩
  by_cases hz : a = 0
  · exact use 0 (by (first | lia | omega)) (by subst hz; decide) (by simp [hz]) (by simp [dput, digitsOf, hz])
  by_cases h1 : a < 131072
  · exact use 1 (by (first | lia | omega)) (by have h1 := bits_ge (k := 0) ha (by (first | lia | omega)); have h2 := bits_lt (k := 17) ha (by (first | lia | omega)); rw [Int.fdiv_eq_ediv_of_nonneg _ (by decide)]; (first | lia | omega)) (by simp [hz]) (by simp [dput, digitsOf, hz, h1])
  by_cases h2 : a < 17179869184
  · exact use 2 (by (first | lia | omega)) (by have h1 := bits_ge (k := 17) ha (by (first | lia | omega)); have h2 := bits_lt (k := 34) ha (by (first | lia | omega)); rw [Int.fdiv_eq_ediv_of_nonneg _ (by decide)]; (first | lia | omega)) (by simp [hz]) (by simp [dput, digitsOf, hz, h1, h2])
  · exact use 3 (by (first | lia | omega)) (by have h1 := bits_ge (k := 34) ha (by (first | lia | omega)); have h2 := bits_lt (k := 51) ha (by (first | lia | omega)); rw [Int.fdiv_eq_ediv_of_nonneg _ (by decide)]; (first | lia | omega)) (by simp [hz]) (by simp [dput, digitsOf, hz, h1, h2])
theorem dsum_val (ds : List Int) : ∀ (k l : Nat), l + k = ds.length → dsum ds 17 l k = valOf (ds.drop l)
  | 0, l, h => by rw [List.drop_eq_nil_of_le (by (first | lia | omega))]; rfl
  | k + 1, l, h => by
    rw [dsum, dsum_val ds k (l + 1) (by (first | lia | omega)), List.drop_eq_getElem_cons (by (first | lia | omega) : l < ds.length), valOf]
    have : iAt ds l = ds[l] := by simp [iAt, List.getD, show l < ds.length by (first | lia | omega)]
    (first | lia | omega)
theorem d2i_spec (w : World) (rest : Led) (hP : ∀ p ∈ rest, p.1 ≠ 37) (ld : Addr) (k : Nat) (tn : Tok) (its : List Value) (ds : List Int) (hm : (ld, W.listOf its.toArray k) ∈ rest) (hi : IntsAre its ds) (hl : ds.length ≤ 3) (hb : ∀ d ∈ ds, 0 ≤ d ∧ d < 2 ^ 20)
   (tab : Obj) (hT : Made 47 4 qD2I tab rest) :
   CallSpecT w 42 [.ref ld, .int 17 tn] 37 tab rest 6 (fun tl tab' r => tab' = tab ∧ ∃ t, r = .int (valOf ds) t) := by
  have hlen := hi.length
  refine (d2i_any w rest tab hP (Or.inr hT) ld k tn 17 (by decide) its ds hm hi (by (first | lia | omega)) hb).mono fun tl tab' r o => ⟨?_, ?_⟩
  · rcases o.1 with ⟨h, _⟩ | h
    · obtain ⟨_, _, _, _, e, _⟩ := hT
      rw [h] at e; cases e
    · exact h.1
  · obtain ⟨t, e⟩ := o.2
    rw [hlen, dsum_val ds ds.length 0 (by (first | lia | omega))] at e
    exact ⟨t, e⟩
theorem qr_val {a : Int} (ha : 0 ≤ a) (ha2 : a < 1125899906842624) : valOf (qr (digitsOf a) (digitsOf a).length).1.reverse = a / 65793 ∧ (qr (digitsOf a) (digitsOf a).length).2 = a % 65793 ∧ ∀ d ∈ (qr (digitsOf a) (digitsOf a).length).1.reverse, 0 ≤ d ∧ d < 2 ^ 20 := by
  have fd : ∀ x : Int, x.fdiv 65793 = x / 65793 := fun x => Int.fdiv_eq_ediv_of_nonneg _ (by decide)
  have fm : ∀ x : Int, x.fmod 65793 = x % 65793 := fun x => Int.fmod_eq_emod_of_nonneg _ (by decide)
  unfold digitsOf
  split
  · rename_i h; subst h; refine ⟨rfl, rfl, ?_⟩; intro d hd; cases hd
  · split
    · simp [qr, valOf, fd, fm]; (first | lia | omega)
    · split
      · simp [qr, valOf, fd, fm]; (first | lia | omega)
      · simp [qr, valOf, fd, fm]; (first | lia | omega)
theorem Made.drop {l c : Int} {q : Str} {tab ob : Obj} {P : Addr} {A B : Led} (hM : Made l c q tab (A ++ (P, ob) :: B)) (ho : ∀ vs : Array Value, ob.data = .fields vs → ∀ q t, vs[1]? ≠ some (.str q t)) : Made l c q tab (A ++ B) := by
  obtain ⟨c', oc, vs, t, e, hm, h1, h2⟩ := hM
  refine ⟨c', oc, vs, t, e, ?_, h1, h2⟩
  rcases List.mem_append.mp hm with hm | hm
  · exact List.mem_append_left _ hm
  · rcases List.mem_cons.mp hm with e' | hm
    · have e2 : oc = ob := congrArg Prod.snd e'
      subst e2
      exact absurd h2 (ho vs h1 q t)
    · exact List.mem_append_right _ hm
theorem MkTab.drop {l c : Int} {q : Str} {tab ob : Obj} {P : Addr} {A B : Led} (hM : MkTab l c q tab (A ++ (P, ob) :: B)) (ho : ∀ vs : Array Value, ob.data = .fields vs → ∀ q t, vs[1]? ≠ some (.str q t)) : MkTab l c q tab (A ++ B) := by
  rcases hM with h | h
  · exact Or.inl h
  · exact Or.inr (Made.drop h ho)
theorem Made.noStr {l c : Int} {q : Str} {tab : Obj} {led : Led} (h : Made l c q tab led) : ∀ vs : Array Value, tab.data = .fields vs → ∀ q t, vs[1]? ≠ some (.str q t) := by
  obtain ⟨c', oc, vs, t, rfl, hm, h1, h2⟩ := h
  intro vs' e q t h3
  cases e
  cases h3
theorem MkTab.noStr {l c : Int} {q : Str} {tab : Obj} {led : Led} (h : MkTab l c q tab led) : ∀ vs : Array Value, tab.data = .fields vs → ∀ q t, vs[1]? ≠ some (.str q t) := by
  rcases h with rfl | h
  · intro vs' e q t h3
    cases e
    cases h3
  · exact Made.noStr h
theorem dp_shape {h₀ h : Heap} {L : Addr} {x y p q : Addr × Obj} {tl2 tl1 rest : Led} (N : News h₀ L h (x :: (tl2 ++ q :: y :: (tl1 ++ p :: rest)))) : News h₀ L h ((x :: (tl2 ++ y :: tl1)) ++ p :: q :: rest) := news_sub N fun z hz => by
  simp at hz ⊢; grind
theorem Made.shape {l c : Int} {qq : Str} {tab ob : Obj} {P : Addr} {x y : Addr × Obj} {tl2 tl1 rest : Led} (h : Made l c qq tab (tl2 ++ y :: (tl1 ++ (P, ob) :: rest))) (ho : ∀ vs : Array Value, ob.data = .fields vs → ∀ q t, vs[1]? ≠ some (.str q t)) : Made l c qq tab ((x :: (tl2 ++ y :: tl1)) ++ rest) := by
  have h4 : Made l c qq tab ((tl2 ++ y :: tl1) ++ (P, ob) :: rest) := h.mono fun p hp => by simp at hp ⊢; grind
  refine Made.mono (Made.drop h4 ho) fun p hp => ?_
  simp at hp ⊢; grind
theorem PV.step {Dq D I : Addr} {rest own tl : Led} {m₀ m' m2 : Str → Option Value} {ds : List Int} {i n : Nat} {qs : List Value} {x y : Int} {tx ty : Tok} (hf : OffStored ["a_digit", "q_digit", "r"] m₀ m2) (hm : m' = fun z : Str => if z = "r" then some (.int y ty) else m2 z)
    (hqs : IntsAre qs (qr ds i).1) (hx : x = ((qr ds i).2 * 131072 + ds.getD (ds.length - 1 - i) 0).fdiv 65793) (hy : y = ((qr ds i).2 * 131072 + ds.getD (ds.length - 1 - i) 0).fmod 65793)
    (hI : I ≠ Dq) (hD : D ≠ Dq) (hr : ∀ p ∈ rest, p.1 ≠ Dq) (hoff : ∀ p ∈ (Dq, W.listOf qs.toArray n) :: rest, p.1 ∉ [I]) (hown : ∀ p ∈ own, p.1 ∈ [I, D]) :
    ∃ news', PV Dq rest m₀ ds (i + 1) m' news' ∧ (∀ p ∈ news', p.1 ∉ [I]) ∧ ∀ p ∈ own ++ news', p ∈ updL Dq (W.listOf (qs.toArray.push (.int x tx)) (n + 1)) (tl ++ (own ++ (Dq, W.listOf qs.toArray n) :: rest)) := by
  subst hx hy
  have hlst : W.listOf (qs ++ [Value.int (((qr ds i).2 * 131072 + ds.getD (ds.length - 1 - i) 0).fdiv 65793) tx]).toArray (n + 1) = W.listOf (qs.toArray.push (Value.int (((qr ds i).2 * 131072 + ds.getD (ds.length - 1 - i) 0).fdiv 65793) tx)) (n + 1) := by
    congr 1; apply Array.toList_inj.mp; simp
  refine ⟨(Dq, W.listOf (qs ++ [Value.int (((qr ds i).2 * 131072 + ds.getD (ds.length - 1 - i) 0).fdiv 65793) tx]).toArray (n + 1)) :: rest, ⟨⟨m2, ty, hf, hm⟩, _, _, rfl, ?_⟩, ?_, ?_⟩
  · exact intsAre_snoc hqs _ _
  · intro p hp
    rcases List.mem_cons.mp hp with rfl | hp
    · exact hoff (Dq, W.listOf qs.toArray n) (List.mem_cons_self ..)
    · exact hoff p (List.mem_cons_of_mem _ hp)
  · intro p hp
    rw [hlst] at hp
    rcases List.mem_append.mp hp with hp | hp
    · refine updL_mem (List.mem_append_right _ (List.mem_append_left _ hp)) ?_
      rcases List.mem_cons.mp (hown p hp) with e | e
      · rw [e]; exact hI
      · rw [List.mem_singleton.mp e]; exact hD
    · rcases List.mem_cons.mp hp with rfl | hp
      · exact updL_new (o := W.listOf qs.toArray n) (by simp)
      · exact updL_mem (by simp [hp]) (hr p hp)
theorem lines_MDpos : True := by
  k_with_none
  k_with "my mem" => (first | assumption | k_mem)
  k_with "my kmem" => (first | assumption | (refine List.mem_append_right _ ?_; k_mem) | (refine List.mem_cons_of_mem _ ?_; k_mem))
  k_with "my kmem" => (exact List.mem_cons_self ..)
  k_with "subscriptTail Name Name ref int" => (walk_at "my item")
  k_with "subscriptTail Name Constant ref int" => (walk_at "my item")
  k_with "my item" => ((with_reducible show wpAny _ _ (subscriptTail _ _ (Value.ref _) (Value.int _ _)) _ _ _); k_dflt (refine item_led (by k_asm) (by walk_at "my mem") (by first | decide | with_reducible assumption | omega) (by first | decide | with_reducible assumption | omega) (by first | with_reducible assumption | exact rfl) ?_ (by with_unfolding_all rfl); k_whole))
  k_with "call builtin:len" => (k_here; (with_reducible show wpAny _ _ (call (Value.builtin "len") [Value.ref _]) _ _ _); k_dflt (refine len_led (by k_asm) (by walk_at "my mem") (by first | assumption | exact rfl) (by first | with_reducible assumption | omega) ?_; k_whole); intro t' k')
  k_with "my for" => (k_here; (rename Fr _ _ _ _ => lF'); (with_unfolding_all refine For_turns lF' ?_; k_whole))
  k_with "my frame" => (repeat' (first | exact OffStored.base | exact OffStored.refl _ _ | refine OffStored.put (by decide) ?_))
  k_with "my append" => (k_here; k_dflt (show wpAny _ _ (call (Value.builtin "list.append") [Value.ref _, _]) _ _ _); k_dflt (refine append_led (by k_asm) (by k_asm) (by walk_at "my mem") ?_ (by first | assumption | size_fits)); intro h' F' N')
  k_with "my div" => (k_here; (with_reducible show wpAny _ _ (binaryOp _ (Value.int _ _) (Value.float _ _)) _ _ _); k_dflt (refine div_if (by exact rfl) (by first | assumption | omega) (by decide +kernel) ?_; k_whole))
  k_with "my join" => (refine JoinP.of (by k_asm) (by k_asm) (by (intro y hy; first | rfl | exact if_neg hy)) ?_)
  k_with "storeName" => (k_here; (try dsimp only); k_dflt (refine storeX_L (by k_asm) (by k_asm) ?_ (by rfl) (by rfl); k_whole; intro h' F' N'; (try k_sweep)))
  k_with "my enterC" => (refine code_defC (by k_asm) (by k_asm) (by k_asm) (by k_asm) (by k_asm) (by exact rfl) (by exact rfl) (by assumption) (by k_is) (by k_is) (by ktr_room) (by exact BindsTo.of_eq rfl) (by exact rfl) (by decide +kernel) ?_ (by exact rfl) (by exact rfl) (by exact rfl); k_whole; intro g' L' h' tk' cells' FG' F' N' Y' B' X' T' l1; k_cells Y'; (try simp only [List.cons_append, List.nil_append] at N'); (try dsimp only); (try k_lift B'); (try k_fold))
  k_with "setItem ref int" => (k_here; k_dflt (refine set_led (by k_asm) (by k_asm) (by walk_at "my mem") (by first | assumption | omega) (by first | assumption | omega) (by first | assumption | omega) ?_; k_whole); intro h' F' N')
  k_with "my tup" => ((with_reducible show wpAny _ _ (subscriptTail _ _ (Value.ref _) (Value.int _ _)) _ _ _); k_dflt (refine tup_led (by k_asm) (by walk_at "my mem") (by first | decide | with_reducible assumption | omega) (by first | decide | with_reducible assumption | omega) (by first | with_reducible assumption | exact rfl) ?_ (by with_unfolding_all rfl); k_whole))
  k_with "my comp" => (k_here; k_dflt (refine PyProof.Rows.LCg.CompSrc.ledger (by rfl) (by k_asm) (by k_asm) (by walk_at "my mem") (by first | assumption | size_fits | exact Nat.le_of_ble_eq_true rfl) ?_); intro g'; refine Halt.go ?_)
  k_with "my str.join" => (k_here; k_dflt (show wpAny _ _ (call (Value.builtin "str.join") [Value.str _ _, Value.ref _]) _ _ _); k_dflt (refine join_led (by k_asm) (by walk_at "my mem") (by assumption) (by assumption) (by assumption) (by decide +kernel) ?_); intro t' k')
  k_with "my free" => (k_here; (with_reducible show wpAny _ _ (eval (Expr.Name _ _) (compEnvC _ _ _ _)) _ _ _); k_dflt (refine ld_free (by rfl) (by k_asm) (by rfl) (by assumption) (by assumption) ?_))
  trivial

theorem more_MDpos_1 : True := by
  k_with "exec For Name Call cons nil" => (walk_at "my for")
  k_with "call builtin:list.append" => (walk_at "my append")
  k_with "call ref" => (k_here; k_dflt (refine call_use (div2n1n_spec _ _ _ _ _ _ (by assumption) (by assumption)) (by k_asm) (by k_asm) (by k_asm) (by k_asm) (by k_asm) (by first | exact rfl | assumption) (by ktr_room) (by ktr_units) ?_); rintro r' tl' h' tk' F' N' o' ⟨x', t0', t1', e1', e2'⟩; subst e1'; subst e2')
  k_with "call ref" => (k_here; (with_reducible show wpAny _ _ (call _ [_, Value.int _ _]) _ _ _); refine Halt.go ?_)
  k_with "call builtin:list.reverse" => (k_here; (with_reducible show wpAny _ _ (call (Value.builtin _) [Value.ref _]) _ _ _); k_dflt (refine kl_reverse (by k_asm) (by k_asm) (by exact rfl) (by k_upd) (by assumption) ?_); intro h' F' N')
  k_with "call type:reversed" => (k_here; k_dflt (refine krv_reversed (by k_asm) (by k_asm) (by exact isList_of (by k_asm) (by k_mem)) ?_); intro D' h' F' N' l1; (try k_lt l1))
  trivial
theorem dpos_spec (w : World) (rest : Led) (t30 t37 : Obj) (hT : Tabs2 t30 t37 rest) (hP : ∀ p ∈ rest, p.1 ≠ 30) (hP2 : ∀ p ∈ rest, p.1 ≠ 37) (a : Int) (ta tb : Tok) (ha : 0 ≤ a) (ha2 : a < 1125899906842624) :
   CallSpecM w 49 [.int a ta, .int 65793 tb] t30 t37 rest 10 (fun tl t30' t37' r => Kept t30 t37 tl t30' t37' ∧ ∃ x t0 t1, r = .ref x ∧ (x, tup2 (a / 65793) (a % 65793) t0 t1) ∈ tl) := by
  w_on
  intro p loose mean mg mb dp un gd cn cs a' ccd cl outer A₀ base h₀ L m s Q E B F X N T hk hd hu hret
  refine wpAny_call ?_
  k_dflt cell_enter
  k_steps
  refine Halt.mk ?_
  rename Fr _ _ _ _ => F1
  rename News _ _ _ _ => N1
  have e17 : ((Builtin.Int.intBits 65793 : Nat) : Int) = 17 := by decide
  rw [e17] at F1 ⊢
  obtain ⟨hM, hT37⟩ := hT
  refine callT_use (i2d_spec w ((37, t37) :: rest) (ne_cons (by decide) hP) a _ _ t30 ha ha2 (hM.mono fun p hp => List.mem_cons_of_mem _ hp)) (by k_asm) (by k_asm) (by k_asm) N1 (fun p hp => hp) (by k_asm) (by first | exact rfl | assumption) (by ktr_room) (by ktr_units) ?_
  intro r1 led1 tl1 t30' h1 k1 F2 N2 el ap1 o1
  obtain ⟨hM2, D, its, er, hD, hI⟩ := o1
  subst er
  have hDm : (D, W.listOf its.toArray 0) ∈ led1 := el ▸ List.mem_append_left _ hD
  have hlen : its.length = (digitsOf a).length := hI.length
  have hI0 := hI
  clear hI
  have hdb := digits_b ha ha2
  have hdl := digits_len a
  clear F1 N1
  k_steps
  rename Fr _ _ _ _ => F3
  rename News _ _ _ _ => N3
  rename _ < _ ∧ AllLt _ led1 => l2
  rename ∀ p ∈ led1, p.1 < _ => l1
  have hqne : ∀ p ∈ led1, p.1 ≠ _ := fun p hp => Nat.ne_of_lt (l1 p hp)
  with_unfolding_all refine rev_turns (PV _ led1 _ (digitsOf a)) rfl F3 N3 (ne_cons (Nat.ne_of_lt l2.1) fun p hp => Nat.ne_of_lt (ktn_ltOf l2.2 p hp)) (List.mem_cons_of_mem _ hDm) (PV.start rfl) ?_ ?_
  · rintro i v m₁ news₁ h₁ tk₁ own hi hv ⟨⟨m2, tr, hm₁, rfl⟩, qs, n, rfl, hqs⟩ hoff hown hI F4 N4
    obtain ⟨u, rfl⟩ := hm₁.form
    obtain ⟨td, ed⟩ := ints_at hI0 (i := its.length - 1 - i) (by (first | lia | omega))
    have ev := Option.some.inj (hv.symm.trans ed)
    subst ev
    have hR := qr_b (digitsOf a) i
    have hd := iAt_b (by decide) hdb (its.length - 1 - i)
    have hql : qs.length = i := hqs.length.trans (qr_len _ _)
    have hsz : qs.toArray.size ≤ sizeLine := by simp [sizeLine]; (first | lia | omega)
    have e2 : (2 : Int) ^ Int.toNat 17 = 131072 := by decide
    have hx0 : 0 ≤ (qr (digitsOf a) i).2 * 2 ^ Int.toNat 17 + iAt (digitsOf a) (its.length - 1 - i) := by rw [e2]; (first | lia | omega)
    have hx1 : (qr (digitsOf a) i).2 * 2 ^ Int.toNat 17 + iAt (digitsOf a) (its.length - 1 - i) < 2 ^ 60 := by rw [e2]; (first | lia | omega)
    clear F3 N3
    k_steps
    rename Fr _ _ _ _ => F5
    rename News _ _ _ _ => N5
    exact TEnd.of F5 N5 (PV.step (by walk_at "my frame") rfl hqs (by rw [e2, hlen]; rfl) (by rw [e2, hlen]; rfl) (Ne.symm (Nat.ne_of_lt l2.1)) (hqne _ hDm) hqne hoff hown)
  · rintro h' tk' m' news' F' N' ⟨⟨m2, tr, hm', rfl⟩, qs, n, rfl, hqs⟩
    obtain ⟨u, rfl⟩ := hm'.form
    have hqv := qr_val ha ha2
    have hql : qs.length = _ := hqs.length.trans (qr_len _ _)
    have hsz : qs.toArray.toList.length ≤ sizeLine := by simp [sizeLine]; (first | lia | omega)
    clear F3 N3
    k_steps
    refine Halt.mk ?_
    rename News _ _ _ _ => N5
    rename Fr _ _ _ _ => F5
    have hrev : IntsAre qs.toArray.toList.reverse (qr (digitsOf a) (digitsOf a).length).1.reverse := by
      rw [← hlen]; exact hqs.reverse
    refine callT_use (d2i_spec w ((_, W.listOf qs.toArray.toList.reverse.toArray n) :: (tl1 ++ (30, t30') :: rest)) ?_ _ n _ _ _ (List.mem_cons_self ..) hrev ?_ hqv.2.2 t37 ?_) (by k_asm) F5 (by k_asm) N5 ?_ (by k_asm) (by first | exact rfl | assumption) (by ktr_room) (by ktr_units) ?_
    · exact ne_cons (Ne.symm (Nat.ne_of_lt (l1 (37, t37) (by rw [el]; simp)))) (fun p hp => by
        rcases List.mem_append.mp hp with hp | hp
        · exact Ne.symm (ap1 (37, t37) (by simp) p hp)
        · exact ne_cons (by decide) hP2 p hp)
    · simpa [qr_len] using hdl
    · exact Made.mono hT37 fun p hp => by simp [hp]
    · intro p hp
      rw [el]
      simp at hp ⊢
      grind
    intro r2 led2 tl2 t37' h2 k2 F6 N6 el2 ap2 o2
    obtain ⟨hM3, tv, er⟩ := o2
    subst er
    clear F5 N5
    k_steps
    rename News h₀ L _ _ => N7
    rename Fr h₀ L _ _ => F7
    rename ∀ p ∈ led2, p.1 < _ => l3
    rw [hqv.1, hlen, hqv.2.1] at N7
    rw [el2] at N7
    refine hret _ _ t30' t37' _ _ F7 (dp_shape N7) ?_ ⟨⟨?_, ?_⟩, _, _, _, rfl, List.mem_cons_self ..⟩
    · intro q hq p hp
      have hq2 : q ∈ led2 := by
        rw [el2]; simp at hq ⊢; grind
      rcases List.mem_cons.mp hp with rfl | hp
      · exact Nat.ne_of_lt (l3 q hq2)
      · rcases List.mem_append.mp hp with hp | hp
        · exact ap2 q (by simp at hq ⊢; grind) p hp
        · have hq1 : ∃ o, (q.1, o) ∈ (30, t30') :: (37, t37) :: rest := by
            simp at hq
            rcases hq with rfl | rfl | hq
            · exact ⟨t30', by simp⟩
            · exact ⟨t37, by simp⟩
            · exact ⟨q.2, by simp [hq]⟩
          obtain ⟨o, hq1⟩ := hq1
          rcases List.mem_cons.mp hp with rfl | hp
          · exact Nat.ne_of_lt (l1 (q.1, o) (by rw [el]; simp at hq1 ⊢; grind))
          · exact ap1 (q.1, o) hq1 p hp
    · rcases hM2 with h | h
      · exact Or.inl (h.mono fun p hp => by simp [hp])
      · exact Or.inr h
    · exact hM3
end

section
open PyProof.Rows.LCg
theorem callM_use {w : World} {f : Addr} {vs : List Value} {t30 t37 : Obj} {rest led : Led} {D : Nat} {Out : Led → Obj → Obj → Value → Prop} (C : CallSpecM w f vs t30 t37 rest D Out) {p : Program} {loose : List Str} {mean : ExcName → Option Value} {mg mb : Str → Option Value}
    {dp un : Nat} {gd : Option (List Code)} {cn : Str} {cs : Scope} {a : Addr} {ccd : Value} {cl : List (Str × Addr)} {outer : List Env} {A₀ : Around} {base h₀ : Heap} {L : Addr} {m : Str → Option Value} {s : Shared} {Q E : Value → Shared → Prop}
    (B : Below A₀ base outer h₀) (F : Fr h₀ L s.heap m) (X : (KK w.params).In h₀) (N : News h₀ L s.heap led) (hs : ∀ p ∈ (30, t30) :: (37, t37) :: rest, p ∈ led) (T : Top p loose mean mg mb h₀) (hk : cs.kind = .function)
    (hd : dp + D < recursionLimit) (hu : un + 8 * D < cLine)
    (ret : ∀ r led' tl t30' t37' h' tk', Fr h₀ L h' m → News h₀ L h' led' → led' = tl ++ (30, t30') :: (37, t37') :: rest → (∀ q ∈ (30, t30') :: (37, t37') :: rest, ∀ p ∈ tl, q.1 ≠ p.1) → Out tl t30' t37' r → Q r { s with heap := h', toks := tk' }) :
    wpAny (model MyProg w) (ktrTop dp un gd cn cs L a ccd cl outer) (call (.ref f) vs) Q E s :=
  C p loose mean mg mb dp un gd cn cs a ccd cl outer A₀ base h₀ L m s Q E B F X (news_sub N hs) T hk hd hu fun r tl t30' t37' h' tk' F' N' ap o => ret r _ tl t30' t37' h' tk' F' N' rfl ap o
theorem lines_MIdiv : True := by
  k_with_none
  k_with "my mem" => (first | assumption | k_mem)
  k_with "my kmem" => (first | assumption | (refine List.mem_append_right _ ?_; k_mem) | (refine List.mem_cons_of_mem _ ?_; k_mem))
  k_with "my kmem" => (exact List.mem_cons_self ..)
  k_with "subscriptTail Name Name ref int" => (walk_at "my item")
  k_with "subscriptTail Name Constant ref int" => (walk_at "my item")
  k_with "my item" => ((with_reducible show wpAny _ _ (subscriptTail _ _ (Value.ref _) (Value.int _ _)) _ _ _); k_dflt (refine item_led (by k_asm) (by walk_at "my mem") (by first | decide | with_reducible assumption | omega) (by first | decide | with_reducible assumption | omega) (by first | with_reducible assumption | exact rfl) ?_ (by with_unfolding_all rfl); k_whole))
  k_with "call builtin:len" => (k_here; (with_reducible show wpAny _ _ (call (Value.builtin "len") [Value.ref _]) _ _ _); k_dflt (refine len_led (by k_asm) (by walk_at "my mem") (by first | assumption | exact rfl) (by first | with_reducible assumption | omega) ?_; k_whole); intro t' k')
  k_with "my for" => (k_here; (rename Fr _ _ _ _ => lF'); (with_unfolding_all refine For_turns lF' ?_; k_whole))
  k_with "my frame" => (repeat' (first | exact OffStored.base | exact OffStored.refl _ _ | refine OffStored.put (by decide) ?_))
  k_with "my append" => (k_here; k_dflt (show wpAny _ _ (call (Value.builtin "list.append") [Value.ref _, _]) _ _ _); k_dflt (refine append_led (by k_asm) (by k_asm) (by walk_at "my mem") ?_ (by first | assumption | size_fits)); intro h' F' N')
  k_with "my div" => (k_here; (with_reducible show wpAny _ _ (binaryOp _ (Value.int _ _) (Value.float _ _)) _ _ _); k_dflt (refine div_if (by exact rfl) (by first | assumption | omega) (by decide +kernel) ?_; k_whole))
  k_with "my join" => (refine JoinP.of (by k_asm) (by k_asm) (by (intro y hy; first | rfl | exact if_neg hy)) ?_)
  k_with "storeName" => (k_here; (try dsimp only); k_dflt (refine storeX_L (by k_asm) (by k_asm) ?_ (by rfl) (by rfl); k_whole; intro h' F' N'; (try k_sweep)))
  k_with "my enterC" => (refine code_defC (by k_asm) (by k_asm) (by k_asm) (by k_asm) (by k_asm) (by exact rfl) (by exact rfl) (by assumption) (by k_is) (by k_is) (by ktr_room) (by exact BindsTo.of_eq rfl) (by exact rfl) (by decide +kernel) ?_ (by exact rfl) (by exact rfl) (by exact rfl); k_whole; intro g' L' h' tk' cells' FG' F' N' Y' B' X' T' l1; k_cells Y'; (try simp only [List.cons_append, List.nil_append] at N'); (try dsimp only); (try k_lift B'); (try k_fold))
  k_with "setItem ref int" => (k_here; k_dflt (refine set_led (by k_asm) (by k_asm) (by walk_at "my mem") (by first | assumption | omega) (by first | assumption | omega) (by first | assumption | omega) ?_; k_whole); intro h' F' N')
  k_with "my tup" => ((with_reducible show wpAny _ _ (subscriptTail _ _ (Value.ref _) (Value.int _ _)) _ _ _); k_dflt (refine tup_led (by k_asm) (by walk_at "my mem") (by first | decide | with_reducible assumption | omega) (by first | decide | with_reducible assumption | omega) (by first | with_reducible assumption | exact rfl) ?_ (by with_unfolding_all rfl); k_whole))
  k_with "my comp" => (k_here; k_dflt (refine PyProof.Rows.LCg.CompSrc.ledger (by rfl) (by k_asm) (by k_asm) (by walk_at "my mem") (by first | assumption | size_fits | exact Nat.le_of_ble_eq_true rfl) ?_); intro g'; refine Halt.go ?_)
  k_with "my str.join" => (k_here; k_dflt (show wpAny _ _ (call (Value.builtin "str.join") [Value.str _ _, Value.ref _]) _ _ _); k_dflt (refine join_led (by k_asm) (by walk_at "my mem") (by assumption) (by assumption) (by assumption) (by decide +kernel) ?_); intro t' k')
  k_with "my free" => (k_here; (with_reducible show wpAny _ _ (eval (Expr.Name _ _) (compEnvC _ _ _ _)) _ _ _); k_dflt (refine ld_free (by rfl) (by k_asm) (by rfl) (by assumption) (by assumption) ?_))
  trivial

theorem more_MIdiv_1 : True := by
  k_with "call ref" => (k_here; (with_reducible show wpAny _ _ (call _ [_, Value.int _ _]) _ _ _); refine Halt.go ?_)
  trivial
theorem idiv_pos (w : World) (rest : Led) (t30 t37 : Obj) (hT : Tabs2 t30 t37 rest) (hP : ∀ p ∈ rest, p.1 ≠ 30) (hP2 : ∀ p ∈ rest, p.1 ≠ 37) (a : Int) (ta tb : Tok) (ha : 0 ≤ a) (ha2 : a < 1125899906842624) :
   CallSpecM w 56 [.int a ta, .int 65793 tb] t30 t37 rest 12 (fun tl t30' t37' r => Kept t30 t37 tl t30' t37' ∧ ∃ x t0 t1, r = .ref x ∧ (x, tup2 (a / 65793) (a % 65793) t0 t1) ∈ tl) := by
  w_on
  intro p loose mean mg mb dp un gd cn cs a' ccd cl outer A₀ base h₀ L m s Q E B F X N T hk hd hu hret
  refine wpAny_call ?_
  k_dflt cell_enter
  k_steps
  refine Halt.mk ?_
  rename Fr _ _ _ _ => F1
  rename News _ _ _ _ => N1
  refine callM_use (dpos_spec w rest t30 t37 hT hP hP2 a _ _ ha ha2) (by k_asm) F1 (by k_asm) N1 (fun p hp => hp) (by k_asm) (by first | exact rfl | assumption) (by ktr_room) (by ktr_units) ?_
  intro r1 led1 tl1 t30' t37' h1 k1 F2 N2 el ap1 o1
  clear F1 N1
  k_steps
  rename News h₀ L _ _ => N7
  rename Fr h₀ L _ _ => F7
  exact hret _ tl1 t30' t37' _ _ F7 (el ▸ N7) ap1 o1
theorem idiv_neg (w : World) (rest : Led) (t30 t37 : Obj) (hT : Tabs2 t30 t37 rest) (hP : ∀ p ∈ rest, p.1 ≠ 30) (hP2 : ∀ p ∈ rest, p.1 ≠ 37) (a : Int) (ta tb : Tok) (ha : a < 0) (ha2 : -1125899906842624 < a) :
   CallSpecM w 56 [.int a ta, .int 65793 tb] t30 t37 rest 14 (fun tl t30' t37' r => Kept t30 t37 tl t30' t37' ∧ ∃ x t0 t1, r = .ref x ∧ (x, tup2 (a / 65793) (a % 65793) t0 t1) ∈ tl) := by
  w_on
  intro p loose mean mg mb dp un gd cn cs a' ccd cl outer A₀ base h₀ L m s Q E B F X N T hk hd hu hret
  refine wpAny_call ?_
  k_dflt cell_enter
  k_steps
  refine Halt.mk ?_
  rename Fr _ _ _ _ => F1
  rename News _ _ _ _ => N1
  refine callM_use (idiv_pos w rest t30 t37 hT hP hP2 (-a - 1) _ _ (by omega) (by omega)) (by k_asm) F1 (by k_asm) N1 (fun p hp => hp) (by k_asm) (by first | exact rfl | assumption) (by ktr_room) (by ktr_units) ?_
  intro r1 led1 tl1 t30' t37' h1 k1 F2 N2 el ap1 o1
  obtain ⟨hT2, x, t0, t1, er, hx⟩ := o1
  subst er
  have hxm : (x, _) ∈ led1 := el ▸ List.mem_append_left _ hx
  clear F1 N1
  k_steps
  rename News h₀ L _ _ => N7
  rename Fr h₀ L _ _ => F7
  rename ∀ p ∈ led1, p.1 < _ => l1
  have e1 : Builtin.bitNot ((-a - 1) / 65793) = a / 65793 := by show -((-a - 1) / 65793) - 1 = _; omega
  have e2 : 65793 + Builtin.bitNot ((-a - 1) % 65793) = a % 65793 := by show 65793 + (-((-a - 1) % 65793) - 1) = _; omega
  rw [e1, e2, el] at N7
  rw [el] at l1
  refine hret _ ((_, _) :: tl1) t30' t37' _ _ F7 N7 ?_ ⟨hT2.mono fun p hp => List.mem_cons_of_mem _ hp, _, _, _, rfl, List.mem_cons_self ..⟩
  intro q hq p hp
  rcases List.mem_cons.mp hp with rfl | hp
  · exact Nat.ne_of_lt (l1 q (List.mem_append_right _ hq))
  · exact ap1 q hq p hp
theorem idiv_spec (w : World) (rest : Led) (t30 t37 : Obj) (hT : Tabs2 t30 t37 rest) (hP : ∀ p ∈ rest, p.1 ≠ 30) (hP2 : ∀ p ∈ rest, p.1 ≠ 37) (a : Int) (ta tb : Tok) (ha : a < 1125899906842624) (ha2 : -1125899906842624 < a) :
   CallSpecM w 56 [.int a ta, .int 65793 tb] t30 t37 rest 14 (fun tl t30' t37' r => Kept t30 t37 tl t30' t37' ∧ ∃ x t0 t1, r = .ref x ∧ (x, tup2 (a / 65793) (a % 65793) t0 t1) ∈ tl) := by
  by_cases h : 0 ≤ a
  · have C := idiv_pos w rest t30 t37 hT hP hP2 a ta tb h ha
    intro p loose mean mg mb dp un gd cn cs a' ccd cl outer A₀ base h₀ L m s Q E B F X N T hk hd hu hret
    exact C p loose mean mg mb dp un gd cn cs a' ccd cl outer A₀ base h₀ L m s Q E B F X N T hk (by omega) (by omega) hret
  · exact idiv_neg w rest t30 t37 hT hP hP2 a ta tb (by lia) ha2
end

section
open PyProof.Rows.LCg PyProof.Rows.LCt
/-! a comprehension over a tuple of the ledger -/
abbrev tupObj (its : Array Value) : Obj := { cls := .type "tuple", data := .seq its }
section
variable {prog : Program} {w : World} {A : Around} {E : Value → Shared → Prop} {s : Shared} {h₀ : Heap} {L : Addr} {m : Str → Option Value} {env : Env}
def SrcTup (prog : Program) (w : World) (A : Around) (h₀ : Heap) (L : Addr) (m : Str → Option Value) (env : Env) (elt : Expr) (x : Str) (scope : Scope) (cl : List (Str × Addr)) (Fin : Shared → List Value → Led → Prop) (xv : Value) (s₁ : Shared) : Prop :=
  ∃ ax its news, xv = .ref ax ∧ A.handled = none ∧ Fr h₀ L s₁.heap m ∧ News h₀ L s₁.heap news ∧ (ax, tupObj its) ∈ news ∧ its.size ≤ sizeLine ∧
    ∀ s₂ : Shared, (∃ h, s₂ = { s₁ with heap := h }) → CompRest prog w A h₀ L m env elt x scope cl s₂ (fun nw => (ax, tupObj its) ∈ nw) (fun i v => its[i]? = some v) (Fin s₂) its.size 0 [] news
theorem SrcTup.of {elt : Expr} {x : Str} {scope : Scope} {cl : List (Str × Addr)} {Fin : Shared → List Value → Led → Prop} {ax : Addr} {its : Array Value} {news : Led} {s₁ : Shared}
    (hh : A.handled = none) (F : Fr h₀ L s₁.heap m) (N : News h₀ L s₁.heap news) (hm : (ax, tupObj its) ∈ news) (hsz : its.size ≤ sizeLine)
    (h : ∀ g, CompRest prog w A h₀ L m env elt x scope cl { s₁ with heap := g } (fun nw => (ax, tupObj its) ∈ nw) (fun i v => its[i]? = some v) (Fin { s₁ with heap := g }) its.size 0 [] news) :
    SrcTup prog w A h₀ L m env elt x scope cl Fin (.ref ax) s₁ := ⟨ax, its, news, rfl, hh, F, N, hm, hsz, fun _ ⟨g, e⟩ => e ▸ h g⟩
theorem tup_st {ax I : Addr} {its : Array Value} : ∀ i (h h' : Heap) (o : Obj) (nw : Led), (h.IsTupleIter I ax i ∧ h.IsTuple ax its) → h.get? I = some o → h'.get? I = some o → (∀ b o, h₀.get? b = some o → h'.get? b = some o) → News h₀ L h' nw → (ax, tupObj its) ∈ nw → (h'.IsTupleIter I ax i ∧ h'.IsTuple ax its) :=
  fun i h h' o nw st e e' k N S => ⟨by obtain ⟨o', q, r⟩ := st.1; rw [e] at q; cases q; exact ⟨o, e', r⟩, ⟨_, (N _ S).1, rfl, _, rfl⟩⟩
theorem ListComp_tup {elt iter : Expr} {x : Str} {px : Pos} {scope : Scope} {cl : List (Str × Addr)} {pos : Pos} {Q : Value → Shared → Prop} (F₀ : Fr h₀ L s.heap m)
    (hclos : closureFor scope env = pure cl) (hcell : ∀ y ∈ scope.names, y.2 ≠ .cell) (hkind : scope.kind = .function)
    (hnames : ∀ y ∈ scope.names, y.2 = .local → scope.names.lookup y.1 = some .local) (hx : scope.names.lookup x = some .local)
    (h : wpAny (model prog w) A (eval iter env) (SrcTup prog w A h₀ L m env elt x scope cl (fun s₂ => FinE h₀ L m s₂ Q)) E s)
    (hs : ∀ x, foldedSetIterable iter env x = pure x := by intro _; rfl) :
    wpAny (model prog w) A (eval (.ListComp elt [⟨.Name x px, iter, [], 0⟩] scope pos) env) Q E s := by
  rw [eval_ListComp]
  refine wpAny_comprehension_free (use := none) rfl hs hclos hkind hnames (wpAny_mono h (fun xv s₁ h₁ => ?_) fun _ _ e => e)
  obtain ⟨ax, its, news, rfl, hh, F, N, S, hsz, R⟩ := h₁
  have hl : s₁.heap.IsTuple ax its := ⟨_, (N _ S).1, rfl, _, rfl⟩
  have hlt : ax < s₁.heap.objs.size := by obtain ⟨_, e, _⟩ := hl; exact Heap.lt_size e
  refine wpAny_pyIter_tuple hl ?_
  have up : ∀ b o, s₁.heap.get? b = some o → (s₁.heap.push { cls := .type "tuple_iterator", data := .fields #[.ref ax, .int 0 0] }).get? b = some o := fun b o e => Heap.get?_push_of_some _ e
  refine block_U (Walks.tuple hh s₁.heap.objs.size ax (Nat.ne_of_lt hlt) its) hsz (fun i h st => by obtain ⟨o, e, _⟩ := st.1; exact ⟨o, e⟩) tup_st hcell hkind hx ⟨⟨_, Heap.get?_push_size _ rfl, rfl, rfl⟩, hl.push _⟩ (fun b hb => ?_)
    (F.keeps up) (N.grown up) (Nat.ne_of_lt F.ns.lt) (next_is_new F) (fun p hp => Nat.ne_of_lt (Heap.lt_size (N p hp).1)) S (R _ ⟨_, rfl⟩) ?_
  · show b < (s₁.heap.push _).objs.size
    rw [Heap.size_push]
    rcases List.mem_cons.mp hb with rfl | hb
    · exact Nat.lt_succ_self _
    · rw [List.mem_singleton.mp hb]; exact Nat.lt_succ_of_lt hlt
  · intro D C h tk m' ys news' F' N' o1 hn hC₀ hD₀ hCL hDL hCD offC fin
    refine ⟨m', hn, fun h'' hs'' => fin D h'' tk (F'.change hs'' hCL hC₀) (fun p hp => ?_) o1⟩
    refine ⟨hs''.extBut _ _ ?_ (N' p hp).1, (N' p hp).2⟩
    rcases List.mem_cons.mp hp with rfl | hp
    · exact Ne.symm hCD
    · exact offC p hp
end
end

section
open PyProof.Rows.LCg
abbrev Lit := Nat → Int × Int × Int
def LightsAt (led : Led) (ll : Addr) (ls : List Addr) (n z : Nat) (lt : Lit) : Prop :=
  (ll, W.listOf (ls.map Value.ref).toArray n) ∈ led ∧ ls.length = z ∧ ∀ j, j < z → ∃ a nn t0 t1 t2, ls[j]? = some a ∧ (a, W.listOf #[.int (lt j).1 t0, .int (lt j).2.1 t1, .int (lt j).2.2 t2] nn) ∈ led
def numOf (lt : Lit) (j : Nat) : Int := (lt j).1 + (lt j).2.1 * 256 + (lt j).2.2 * 65536
def crossOf (lt : Lit) (a b : Nat) : Int := ((lt a).1 - (lt a).2.2) * ((lt b).2.1 - (lt b).2.2) - ((lt a).2.1 - (lt a).2.2) * ((lt b).1 - (lt b).2.2)
def wgtOf (lt : Lit) (q : Tri) (m : Nat) : Int := if m = q.1 then crossOf lt q.2.1 q.2.2 else if m = q.2.1 then crossOf lt q.2.2 q.1 else if m = q.2.2 then crossOf lt q.1 q.2.1 else 0
def signOf (x : Int) : Str := if x = 0 then "." else if x < 0 then "A" else "a"
def mixWord (z : Nat) (lt : Lit) (q : Tri) : Str := Txt.join "" ((List.range z).map fun m => signOf (wgtOf lt q m))
section
variable {prog : Program} {w : World} {A : Around} {s : Shared} {h₀ : Heap} {L : Addr} {m : Str → Option Value} {env : Env} {ct elt : Expr} {x : Str} {scope : Scope} {cl : List (Str × Addr)} {S : Led → Prop} {P : Nat → Value → Prop} {Fin : List Value → Led → Prop} {news : Led}
/-- a comprehension whose elements change the ledger -/
def CEndJ (h₀ : Heap) (L : Addr) (m : Str → Option Value) (I : Addr) (oI : Obj) (C : Addr) (oC : Obj) (D : Addr) (oD : Obj) (s : Shared) (J : Value → Led → Prop) (y : Value) (s' : Shared) : Prop :=
  ∃ h' tk' all led', s' = { s with heap := h', toks := tk' } ∧ Fr h₀ L h' m ∧ News h₀ L h' all ∧ (∀ p ∈ (I, oI) :: (C, oC) :: (D, oD) :: led', p ∈ all) ∧ Off3 I C D led' ∧ J y led'
theorem CEndJ.of {I C D : Addr} {oI oC oD : Obj} {J : Value → Led → Prop} {y : Value} {h' : Heap} {tk' : Nat} {all : Led} (F : Fr h₀ L h' m) (N : News h₀ L h' all)
    (x : ∃ led', (∀ p ∈ (I, oI) :: (C, oC) :: (D, oD) :: led', p ∈ all) ∧ Off3 I C D led' ∧ J y led') : CEndJ h₀ L m I oI C oC D oD s J y { s with heap := h', toks := tk' } :=
  let ⟨led', sub, off, hj⟩ := x; ⟨h', tk', all, led', rfl, F, N, sub, off, hj⟩
theorem comp_inv {n : Nat} (J : Nat → List Value → Led → Prop) (hS : ∀ i ys led, J i ys led → S led) (h0 : J 0 [] news)
    (turn : ∀ i v ys led I oI C oC D m₂ h tk (E' : Value → Shared → Prop), i < n → P i v → J i ys led → NsObj oC m₂ → m₂ x = some v → Fr h₀ L h m → News h₀ L h ((I, oI) :: (C, oC) :: (D, lst ys) :: led) → Off3 I C D led →
      wpAny (model prog w) A (eval elt (compEnvC scope cl C env)) (CEndJ h₀ L m I oI C oC D (lst ys) { s with heap := h, toks := tk } (fun y led' => J (i + 1) (ys ++ [y]) led')) E' { s with heap := h, toks := tk })
    (fin : ∀ ys led, J n ys led → Fin ys led) :
    CompRest prog w A h₀ L m env elt x scope cl s S P Fin n 0 [] news := by
  have all : ∀ k i ys led, i + k = n → J i ys led → CompRest prog w A h₀ L m env elt x scope cl s S P Fin k i ys led := by
    intro k
    induction k with
    | zero =>
      intro i ys led hi hJ
      have e : i = n := by omega
      subst e
      exact CompRest.zero (fin ys led hJ)
    | succ k ih =>
      intro i ys led hi hJ
      refine CompRest.succ fun v I oI C oC D m₂ h tk E' hP hC hx F N off ne => ?_
      refine wpAny_mono (turn i v ys led I oI C oC D m₂ h tk E' (by omega) hP hJ hC hx F N off) (fun y s' hp => ?_) fun _ _ e => e
      obtain ⟨h', tk', all, led', rfl, F', N', sub, off', hJ'⟩ := hp
      exact CompEnd.intro F' N' led' sub off' (hS _ _ _ hJ') (ih (i + 1) _ led' (by lia) hJ')
  exact all n 0 [] news (by lia) h0
end
theorem ints_inv3 {its : List Value} {x y z : Int} (h : IntsAre its [x, y, z]) : ∃ t u v, its = [.int x t, .int y u, .int z v] := by
  cases h with | cons _ t h => cases h with | cons _ u h => cases h with | cons _ v h => cases h; exact ⟨t, u, v, rfl⟩
theorem d2i8_spec (w : World) (rest : Led) (hP : ∀ p ∈ rest, p.1 ≠ 37) (ld : Addr) (k : Nat) (tn : Tok) (d0 d1 d2 : Int) (t0 t1 t2 : Tok) (hm : (ld, W.listOf #[.int d0 t0, .int d1 t1, .int d2 t2] k) ∈ rest)
   (b0 : 0 ≤ d0 ∧ d0 < 2 ^ 20) (b1 : 0 ≤ d1 ∧ d1 < 2 ^ 20) (b2 : 0 ≤ d2 ∧ d2 < 2 ^ 20) (tab : Obj) (hT : MkTab 47 4 qD2I tab rest) :
   CallSpecT w 42 [.ref ld, .int 8 tn] 37 tab rest 6 (fun tl tab' r => (Made 47 4 qD2I tab' tl ∨ (tab' = tab ∧ ∃ A, tab = tabObj #[rawInt 47, rawInt 4, .ref A])) ∧ ∃ t, r = .int (d0 + d1 * 256 + d2 * 65536) t) := by
  refine (d2i_any w rest tab hP hT ld k tn 8 (by decide) [.int d0 t0, .int d1 t1, .int d2 t2] [d0, d1, d2] hm (.cons _ _ (.cons _ _ (.cons _ _ .nil))) (Nat.le_refl 3) (List.forall_mem_cons.mpr ⟨b0, List.forall_mem_cons.mpr ⟨b1, List.forall_mem_cons.mpr ⟨b2, fun _ h => nomatch h⟩⟩⟩)).mono fun tl tab' r o => ⟨?_, ?_⟩
  · rcases o.1 with ⟨_, h⟩ | ⟨h, c, oc, vs, t, e, _⟩
    · exact Or.inl h
    · exact Or.inr ⟨h, c, e⟩
  · obtain ⟨t, e⟩ := o.2
    have : dsum [d0, d1, d2] 8 0 3 = d0 + d1 * 256 + d2 * 65536 := by simp only [dsum, iAt, List.getD_cons_zero, List.getD_cons_succ]; lia
    exact ⟨t, e.trans (by rw [← this]; rfl)⟩
theorem MkTab.filled {l c : Int} {q : Str} {led : Led} {A : Addr} (h : MkTab l c q (tabObj #[rawInt l, rawInt c, .ref A]) led) : Made l c q (tabObj #[rawInt l, rawInt c, .ref A]) led := by
  rcases h with h | h
  · cases h
  · exact h
/-- off: the new entries stand apart from the old -/
def Apart (tl old : Led) : Prop := ∀ q ∈ old, ∀ p ∈ tl, q.1 ≠ p.1
theorem Apart.sub {tl old old' : Led} (h : Apart tl old) (hs : ∀ p ∈ old', ∃ o, (p.1, o) ∈ old) : Apart tl old' := fun q hq p hp => by
  obtain ⟨o, ho⟩ := hs q hq
  exact h (q.1, o) ho p hp
/-- the numbers read so far -/
def NJ (own rest : Led) (t30 : Obj) (lt : Lit) (i : Nat) (ys : List Value) (led : Led) : Prop :=
  ∃ (t37 : Obj) (tl : Led), led = own ++ (tl ++ (30, t30) :: (37, t37) :: rest) ∧ Apart tl (own ++ (30, t30) :: (37, t37) :: rest) ∧ MkTab 47 4 qD2I t37 (tl ++ rest) ∧ (0 < i → Made 47 4 qD2I t37 (tl ++ rest)) ∧ IntsAre ys ((List.range i).map (numOf lt))
theorem NJ.start {a b c d : Addr × Obj} {t : Obj} {rest : Led} {lt : Lit} : NJ [a, b, c, d] rest t lt 0 [] (a :: b :: c :: d :: (30, t) :: (37, tabObj #[]) :: rest) :=
  ⟨tabObj #[], [], rfl, (fun _ _ p hp => nomatch hp), Or.inl rfl, (fun h => absurd h (Nat.lt_irrefl _)), .nil⟩
theorem NJ.mem {own rest : Led} {t30 : Obj} {lt : Lit} {i : Nat} {ys : List Value} {led : Led} (h : NJ own rest t30 lt i ys led) {p : Addr × Obj} (hp : p ∈ rest) : p ∈ led := by
  obtain ⟨t37, tl, rfl, _⟩ := h
  simp [hp]
theorem NJ.step {own rest tl tl2 led2 : Led} {lt : Lit} {i : Nat} {ys : List Value} {I C D : Addr} {oI oC oD t30 t37 t37' : Obj} {x : Int} {tx : Tok} (hx : x = numOf lt i)
    (ap : Apart tl (own ++ (30, t30) :: (37, t37) :: rest)) (hMt : MkTab 47 4 qD2I t37 (tl ++ rest)) (hi : IntsAre ys ((List.range i).map (numOf lt)))
    (el : led2 = tl2 ++ (37, t37') :: ((I, oI) :: (C, oC) :: (D, oD) :: (own ++ tl ++ (30, t30) :: rest))) (ap2 : ∀ q ∈ (37, t37') :: ((I, oI) :: (C, oC) :: (D, oD) :: (own ++ tl ++ (30, t30) :: rest)), ∀ p ∈ tl2, q.1 ≠ p.1)
    (hM : Made 47 4 qD2I t37' tl2 ∨ (t37' = t37 ∧ ∃ A, t37 = tabObj #[rawInt 47, rawInt 4, .ref A])) (off : Off3 I C D (own ++ (tl ++ (30, t30) :: (37, t37) :: rest))) :
    ∃ led', (∀ p ∈ (I, oI) :: (C, oC) :: (D, oD) :: led', p ∈ led2) ∧ Off3 I C D led' ∧ NJ own rest t30 lt (i + 1) (ys ++ [.int x tx]) led' := by
  subst hx
  have hM2 : Made 47 4 qD2I t37' ((tl2 ++ tl) ++ rest) := by
    rcases hM with h | ⟨rfl, A, rfl⟩
    · exact h.mono fun p hp => by simp [hp]
    · exact (MkTab.filled hMt).mono fun p hp => by simp at hp ⊢; grind
  refine ⟨own ++ ((tl2 ++ tl) ++ (30, t30) :: (37, t37') :: rest), ?_, ?_, t37', tl2 ++ tl, rfl, ?_, Or.inr hM2, fun _ => hM2, ?_⟩
  · intro p hp
    rw [el]
    simp at hp ⊢; grind
  · refine Off3.of fun p hp => ?_
    have hoff := Off3.mem off
    simp at hp
    by_cases h : p ∈ tl2
    · have h1 := ap2 (I, oI) (by simp) p h
      have h2 := ap2 (C, oC) (by simp) p h
      have h3 := ap2 (D, oD) (by simp) p h
      exact ⟨Ne.symm h1, Ne.symm h2, Ne.symm h3⟩
    · by_cases h4 : p = (37, t37')
      · subst h4; exact hoff (37, t37) (by simp)
      · exact hoff p (by simp; grind)
  · intro q hq p hp
    rcases List.mem_append.mp hp with hp | hp
    · exact ap2 q (by simp at hq ⊢; grind) p hp
    · by_cases h4 : q = (37, t37')
      · subst h4; exact ap (37, t37) (by simp) p hp
      · exact ap q (by simp at hq ⊢; grind) p hp
  · rw [List.range_succ, List.map_append]
    exact intsAre_snoc hi _ _
theorem gt_ne {P c : Addr} (h : @LT.lt Nat _ P c) : c ≠ P := Nat.ne_of_gt h
theorem X_ne {own tl rest : Led} {t30 t37 t30' t37' : Obj} {c : Addr} (ap : Apart tl (own ++ (30, t30) :: (37, t37) :: rest)) (hc : ∃ o, (c, o) ∈ own) (h0 : @LT.lt Nat _ 37 c) (h : ∀ p ∈ rest, p.1 ≠ c) : ∀ p ∈ tl ++ (30, t30') :: (37, t37') :: rest, p.1 ≠ c := fun p hp => by
  obtain ⟨o, ho⟩ := hc
  rcases List.mem_append.mp hp with hp | hp
  · exact Ne.symm (ap (c, o) (List.mem_append_left _ ho) p hp)
  · exact ne_cons (Nat.ne_of_lt (Nat.lt_trans (by decide) h0)) (ne_cons (Nat.ne_of_lt h0) h) p hp
theorem T0_lt {z : Nat} {q : Tri} (h : q ∈ T0 z z) : q.1 < q.2.1 ∧ q.2.1 < q.2.2 ∧ q.2.2 < z := by
  simp only [T0, T1, T2, List.mem_flatMap, List.mem_map, List.mem_range] at h
  obtain ⟨a, ha, b, hb, c, hc, rfl⟩ := h
  dsimp only
  omega
/-- the triples gone through; R is what the loop leaves alone -/
def hasA (x : Str) : Bool := Txt.contains (Txt.lower x) "a"
def WJ (lw c3 : Addr) (R : Led) (m₀ : Str → Option Value) (z : Nat) (lt : Lit) (i : Nat) (m : Str → Option Value) (led : Led) : Prop :=
  OffStored ["i", "j", "k", "mix", "grey", "word"] m₀ m ∧ ∃ (t30 t37 : Obj) (tl : Led) (ws : List Value) (n : Nat) (oW : Obj) (vW : Option Value), led = (lw, W.listOf ws.toArray n) :: (c3, oW) :: (tl ++ (30, t30) :: (37, t37) :: R) ∧ oW.data = Data.cell vW ∧
    (∀ p ∈ tl, p.1 ≠ lw ∧ p.1 ≠ c3 ∧ p.1 ≠ 30 ∧ p.1 ≠ 37 ∧ ∀ q ∈ R, q.1 ≠ p.1) ∧ Tabs2 t30 t37 (tl ++ R) ∧ ws.length ≤ i ∧ StrsAre ws ((((T0 z z).take i).map (mixWord z lt)).filter hasA)
theorem loop_shape {h₀ h : Heap} {L : Addr} {tl3 tl rest X : Led} {d l c3 c2 c1 p30 p37 : Addr × Obj} (hX : X = tl ++ p30 :: p37 :: rest) (N : News h₀ L h (tl3 ++ d :: l :: c3 :: c2 :: c1 :: X)) :
    ∃ R, R = tl3 ++ d :: c2 :: c1 :: (tl ++ rest) ∧ d ∈ R ∧ c2 ∈ R ∧ c1 ∈ R ∧ News h₀ L h (l :: c3 :: ([] ++ p30 :: p37 :: R)) := ⟨_, rfl, by simp, by simp, by simp, news_sub N fun z hz => by
  subst hX
  simp at hz ⊢; grind⟩
def Ne4 (lw c3 : Addr) (p : Addr × Obj) : Prop := p.1 ≠ lw ∧ p.1 ≠ c3 ∧ p.1 ≠ 30 ∧ p.1 ≠ 37
theorem R_ne {tl3 tl rest X : Led} {t30 t37 o oW oN oL ob : Obj} {d l c3 c2 c1 L : Addr} (hX : X = tl ++ (30, t30) :: (37, t37) :: rest) (ap3 : ∀ q ∈ (d, ob) :: (l, o) :: (c3, oW) :: (c2, oN) :: (c1, oL) :: X, ∀ p ∈ tl3, q.1 ≠ p.1)
    (od : l ≠ d ∧ c3 ≠ d ∧ c2 ≠ d ∧ c1 ≠ d ∧ Off1 d X) (ap : ∀ p ∈ tl, p.1 ≠ l ∧ p.1 ≠ c3 ∧ p.1 ≠ 30 ∧ p.1 ≠ 37) (hl : @LT.lt Nat _ c3 l) (h3 : @LT.lt Nat _ c2 c3) (h2 : @LT.lt Nat _ c1 c2) (h1 : @LT.lt Nat _ L c1) (hL : @LT.lt Nat _ 37 L)
    (hr : ∀ p ∈ rest, @LT.lt Nat _ p.1 L) (hP : ∀ p ∈ rest, p.1 ≠ 30) (hP2 : ∀ p ∈ rest, p.1 ≠ 37) : ∀ p ∈ tl3 ++ (d, ob) :: (c2, oN) :: (c1, oL) :: (tl ++ rest), Ne4 l c3 p := by
  intro p hp
  have oX := ne_of_off1 od.2.2.2.2
  rcases List.mem_append.mp hp with hp | hp
  · exact ⟨Ne.symm (ap3 (l, o) (by simp) p hp), Ne.symm (ap3 (c3, oW) (by simp) p hp), Ne.symm (ap3 (30, t30) (by simp [hX]) p hp), Ne.symm (ap3 (37, t37) (by simp [hX]) p hp)⟩
  · rcases List.mem_cons.mp hp with rfl | hp
    · exact ⟨Ne.symm od.1, Ne.symm od.2.1, Ne.symm (oX (30, t30) (by simp [hX])), Ne.symm (oX (37, t37) (by simp [hX]))⟩
    · rcases List.mem_cons.mp hp with rfl | hp
      · exact ⟨Nat.ne_of_lt (Nat.lt_trans h3 hl), Nat.ne_of_lt h3, gt_ne (by omega), gt_ne (by omega)⟩
      · rcases List.mem_cons.mp hp with rfl | hp
        · exact ⟨Nat.ne_of_lt (Nat.lt_trans h2 (Nat.lt_trans h3 hl)), Nat.ne_of_lt (Nat.lt_trans h2 h3), gt_ne (by omega), gt_ne (by omega)⟩
        · rcases List.mem_append.mp hp with hp | hp
          · exact ap p hp
          · have := hr p hp
            exact ⟨Nat.ne_of_lt (by omega), Nat.ne_of_lt (by omega), hP p hp, hP2 p hp⟩
theorem WJ.start {lw c3 : Addr} {R : Led} {m₀ : Str → Option Value} {z : Nat} {lt : Lit} {t30 t37 oW : Obj} {vW : Option Value} (hW : oW.data = Data.cell vW) (hT : Tabs2 t30 t37 R) :
    WJ lw c3 R m₀ z lt 0 m₀ ((lw, W.listOf #[] 0) :: (c3, oW) :: ([] ++ (30, t30) :: (37, t37) :: R)) :=
  ⟨OffStored.refl _ _, t30, t37, [], [], 0, oW, vW, rfl, hW, (fun _ h => nomatch h), hT, Nat.le_refl _, .nil⟩
theorem turn_shape {h₀ h : Heap} {L lw c3 I D3 : Addr} {own tl R : Led} {o oW t30 t37 : Obj} (N : News h₀ L h (own ++ (lw, o) :: (c3, oW) :: (tl ++ (30, t30) :: (37, t37) :: R)))
    (hoff : ∀ p ∈ (lw, o) :: (c3, oW) :: (tl ++ (30, t30) :: (37, t37) :: R), p.1 ∉ [I]) (hown : ∀ p ∈ own, p.1 ∈ [I, D3]) (hD1 : D3 ≠ lw) (hD2 : D3 ≠ c3) (htl : ∀ p ∈ tl, p.1 ≠ lw ∧ p.1 ≠ c3 ∧ p.1 ≠ 30 ∧ p.1 ≠ 37 ∧ ∀ q ∈ R, q.1 ≠ p.1)
    (hR : ∀ p ∈ R, Ne4 lw c3 p) (h1 : @LT.lt Nat _ 37 c3) (h2 : @LT.lt Nat _ c3 lw) :
    ∃ X, X = own ++ (tl ++ (30, t30) :: (37, t37) :: R) ∧ News h₀ L h ((lw, o) :: (c3, oW) :: X) ∧ (∀ p ∈ X, p.1 ≠ lw) ∧ (∀ p ∈ X, p.1 ≠ c3) ∧ ∀ p ∈ R, p ∈ X := by
  have hI1 : I ≠ lw := fun e => hoff (lw, o) (by simp) (by simp [e])
  have hI2 : I ≠ c3 := fun e => hoff (c3, oW) (by simp) (by simp [e])
  refine ⟨_, rfl, news_sub N fun z hz => by simp at hz ⊢; grind, fun p hp => ?_, fun p hp => ?_, fun p hp => by simp [hp]⟩
  · rcases List.mem_append.mp hp with hp | hp
    · rcases List.mem_cons.mp (hown p hp) with e | e
      · rw [e]; exact hI1
      · rw [List.mem_singleton.mp e]; exact hD1
    · rcases List.mem_append.mp hp with hp | hp
      · exact (htl p hp).1
      · exact ne_cons (Nat.ne_of_lt (by omega)) (ne_cons (Nat.ne_of_lt (by omega)) fun p hp => (hR p hp).1) p hp
  · rcases List.mem_append.mp hp with hp | hp
    · rcases List.mem_cons.mp (hown p hp) with e | e
      · rw [e]; exact hI2
      · rw [List.mem_singleton.mp e]; exact hD2
    · rcases List.mem_append.mp hp with hp | hp
      · exact (htl p hp).2.1
      · exact ne_cons (Nat.ne_of_lt (by omega)) (ne_cons (Nat.ne_of_lt (by omega)) fun p hp => (hR p hp).2.1) p hp
section
variable {prog : Program} {w : World} {A : Around} {E : Value → Shared → Prop} {s : Shared} {h₀ : Heap} {L D : Addr} {m : Str → Option Value} {news : Led}
theorem set_upd {vs : List Value} {n : Nat} {k : Int} {t : Tok} {v : Value} {g : Obj → Led} {Q : Unit → Shared → Prop} (F : Fr h₀ L s.heap m) (N : News h₀ L s.heap news) (U : UpdF D (W.listOf vs.toArray n) news g) (h0 : 0 ≤ k) (h1 : k < (vs.length : Int)) (hfit : k < 2 ^ 63)
    (h : ∀ h', Fr h₀ L h' m → News h₀ L h' (g (W.listOf (vs.set k.toNat v).toArray n)) → Q () { s with heap := h' }) : wpAny (model prog w) A (setItem (.ref D) (.int k t) v) Q E s := by
  obtain ⟨pre, post, rfl, hg, hp, hq⟩ := U.split
  refine set_led F N (List.mem_append_right _ (List.mem_cons_self ..)) h0 h1 hfit fun h' F' N' => h h' F' (news_sub N' fun p hpm => ?_)
  rw [hg] at hpm
  rcases List.mem_append.mp hpm with hm | hm
  · exact updL_mem (List.mem_append_left _ hm) (hp p hm)
  · rcases List.mem_cons.mp hm with rfl | hm
    · exact updL_new (List.mem_append_right _ (List.mem_cons_self ..))
    · exact updL_mem (List.mem_append_right _ (List.mem_cons_of_mem _ hm)) (hq p hm)
end
theorem wts_shape {h₀ h : Heap} {L D : Addr} {news : Led} {z qi qj qk n : Nat} {lt : Lit} {t0 t1 t2 t3 : Tok} {c1 c2 c3 : Int} (hi : qi < qj) (hj : qj < qk) (hk : qk < z) (e1 : c1 = crossOf lt qj qk) (e2 : c2 = crossOf lt qk qi) (e3 : c3 = crossOf lt qi qj)
    (N : News h₀ L h ((D, W.listOf ((((List.replicate z (Value.int 0 t0)).set ((qi : Nat) : Int).toNat (.int c1 t1)).set ((qj : Nat) : Int).toNat (.int c2 t2)).set ((qk : Nat) : Int).toNat (.int c3 t3)).toArray n) :: news)) :
    ∃ wl : List Value, News h₀ L h ((D, W.listOf wl.toArray n) :: news) ∧ wl.length = z ∧ ∀ m, m < z → ∃ t, wl[m]? = some (.int (wgtOf lt (qi, qj, qk) m) t) := by
  refine ⟨_, N, by simp, fun m hm => ?_⟩
  subst e1 e2 e3
  simp only [Int.toNat_natCast, List.getElem?_set, List.length_set, List.length_replicate, List.getElem?_replicate]
  unfold wgtOf
  dsimp only
  by_cases h1 : m = qi
  · subst h1
    exact ⟨t1, by rw [if_neg (by omega), if_neg (by omega), if_pos rfl, if_pos (by omega), if_pos rfl]⟩
  · by_cases h2 : m = qj
    · subst h2
      exact ⟨t2, by rw [if_neg (by omega), if_pos rfl, if_pos (by omega), if_neg h1, if_pos rfl]⟩
    · by_cases h3 : m = qk
      · subst h3
        exact ⟨t3, by rw [if_pos rfl, if_pos (by omega), if_neg h1, if_neg h2, if_pos rfl]⟩
      · exact ⟨t0, by rw [if_neg (by lia), if_neg (by lia), if_neg (by lia), if_pos hm, if_neg h1, if_neg h2, if_neg h3]⟩
theorem iAt_map {n i : Nat} {f : Nat → Int} (h : i < n) : iAt ((List.range n).map f) i = f i := by
  unfold iAt
  simp [List.getD_eq_getElem?_getD, h]
def sel (qi qj qk j : Nat) : Nat := if j = 0 then qi else if j = 1 then qj else qk
theorem sel_val {qi qj qk j : Nat} {s0 s1 s2 : Tok} {v : Value} (h : (#[Value.int ((qi : Nat) : Int) s0, .int ((qj : Nat) : Int) s1, .int ((qk : Nat) : Int) s2] : Array Value)[j]? = some v) : ∃ t, v = .int ((sel qi qj qk j : Nat) : Int) t := by
  have h3 : j < 3 := by
    have := (Array.getElem?_eq_some_iff.mp h).1
    simpa using this
  have hj3 : j = 0 ∨ j = 1 ∨ j = 2 := by lia
  rcases hj3 with rfl | rfl | rfl
  · exact ⟨s0, (Option.some.inj h).symm⟩
  · exact ⟨s1, (Option.some.inj h).symm⟩
  · exact ⟨s2, (Option.some.inj h).symm⟩
theorem sel_lt {qi qj qk z : Nat} (hi : qi < qj) (hj : qj < qk) (hk : qk < z) (j : Nat) : sel qi qj qk j < z := by
  unfold sel; split
  · omega
  · split <;> omega
theorem three_ints {ys : List Value} (g : Nat → Int) (hl : ys.length = 3) (h : ∀ i y, ys[i]? = some y → ∃ t, y = Value.int (g i) t) : ∃ t u v, ys = [.int (g 0) t, .int (g 1) u, .int (g 2) v] :=
  ints_inv3 (ints_of (n := 3) (g := g) hl h)
theorem cend_int {h₀ : Heap} {L : Addr} {m : Str → Option Value} {led : Led} {s : Shared} {x y : Int} {u : Tok} {h' : Heap} {tk' : Nat} (e : y = x) (F : Fr h₀ L h' m) (N : News h₀ L h' led) :
    CEnd h₀ L m led s (fun v => ∃ t, v = Value.int x t) (.int y u) { s with heap := h', toks := tk' } := CEnd.of F N ⟨u, by rw [e]⟩
def filt (led : Led) : Led := led.filter fun p => p.1 != 30 && p.1 != 37
theorem mem_filt {led : Led} {p : Addr × Obj} (h : p ∈ led) (h0 : p.1 ≠ 30) (h1 : p.1 ≠ 37) : p ∈ filt led := List.mem_filter.mpr ⟨h, by simp [h0, h1]⟩
theorem filt_mem {led : Led} {p : Addr × Obj} (h : p ∈ filt led) : p ∈ led ∧ p.1 ≠ 30 ∧ p.1 ≠ 37 := by
  obtain ⟨h1, h2⟩ := List.mem_filter.mp h
  simp at h2
  exact ⟨h1, h2⟩
theorem idiv_call {w : World} {t30 t37 : Obj} {a : Int} {ta tb : Tok} {K led : Led} {p : Program} {loose : List Str} {mean : ExcName → Option Value} {mg mb : Str → Option Value}
    {dp un : Nat} {gd : Option (List Code)} {cn : Str} {cs : Scope} {a' : Addr} {ccd : Value} {cl : List (Str × Addr)} {outer : List Env} {A₀ : Around} {base h₀ : Heap} {L : Addr} {m : Str → Option Value} {s : Shared} {Q E : Value → Shared → Prop}
    (B : Below A₀ base outer h₀) (F : Fr h₀ L s.heap m) (X : (KK w.params).In h₀) (N : News h₀ L s.heap led) (T : Top p loose mean mg mb h₀) (hk : cs.kind = .function)
    (hd : dp + 14 < recursionLimit) (hu : un + 8 * 14 < cLine) (h30 : (30, t30) ∈ led) (h37 : (37, t37) ∈ led) (hT : Tabs2 t30 t37 K) (hK : ∀ p ∈ K, p ∈ led ∧ p.1 ≠ 30 ∧ p.1 ≠ 37) (ha : a < 1125899906842624) (ha2 : -1125899906842624 < a)
    (ret : ∀ x t0 t1 tl2 t30' t37' h' tk', Fr h₀ L h' m → News h₀ L h' (tl2 ++ (30, t30') :: (37, t37') :: filt led) → Apart tl2 ((30, t30') :: (37, t37') :: filt led) → Tabs2 t30' t37' (tl2 ++ K) → (x, tup2 (a / 65793) (a % 65793) t0 t1) ∈ tl2 → Q (.ref x) { s with heap := h', toks := tk' }) :
    wpAny (model MyProg w) (ktrTop dp un gd cn cs L a' ccd cl outer) (call (.ref 56) [.int a ta, .int 65793 tb]) Q E s := by
  refine callM_use (idiv_spec w (filt led) t30 t37 (hT.mono fun p hp => mem_filt (hK p hp).1 (hK p hp).2.1 (hK p hp).2.2) (fun p hp => (filt_mem hp).2.1) (fun p hp => (filt_mem hp).2.2) a ta tb ha ha2) B F X N ?_ T hk hd hu ?_
  · intro p hp
    rcases List.mem_cons.mp hp with rfl | hp
    · exact h30
    · rcases List.mem_cons.mp hp with rfl | hp
      · exact h37
      · exact (filt_mem hp).1
  · intro r led' tl2 t30' t37' h' tk' F' N' el ap o
    obtain ⟨hT', x, t0, t1, rfl, hx⟩ := o
    subst el
    exact ret x t0 t1 tl2 t30' t37' h' tk' F' N' ap (hT'.tabs hT) hx
theorem mul_b {x y A B : Int} (hx : x.natAbs ≤ A.natAbs) (hy : y.natAbs ≤ B.natAbs) : (x * y).natAbs ≤ A.natAbs * B.natAbs := by
  rw [Int.natAbs_mul]; exact Nat.mul_le_mul hx hy
theorem cross_b {lt : Lit} {a b : Nat} (ha : (0 ≤ (lt a).1 ∧ (lt a).1 ≤ 128) ∧ (0 ≤ (lt a).2.1 ∧ (lt a).2.1 ≤ 128) ∧ (0 ≤ (lt a).2.2 ∧ (lt a).2.2 ≤ 128)) (hb : (0 ≤ (lt b).1 ∧ (lt b).1 ≤ 128) ∧ (0 ≤ (lt b).2.1 ∧ (lt b).2.1 ≤ 128) ∧ (0 ≤ (lt b).2.2 ∧ (lt b).2.2 ≤ 128)) : (crossOf lt a b).natAbs ≤ 32768 := by
  unfold crossOf
  have h1 := mul_b (x := (lt a).1 - (lt a).2.2) (y := (lt b).2.1 - (lt b).2.2) (A := 128) (B := 128) (by omega) (by omega)
  have h2 := mul_b (x := (lt a).2.1 - (lt a).2.2) (y := (lt b).1 - (lt b).2.2) (A := 128) (B := 128) (by omega) (by omega)
  have e : (128 : Int).natAbs * (128 : Int).natAbs = 16384 := by decide
  rw [e] at h1 h2
  omega
theorem ring3 (a1 a2 b1 b2 c1 c2 : Int) : (b1 * c2 - b2 * c1) * a1 + (c1 * a2 - c2 * a1) * b1 + (a1 * b2 - a2 * b1) * c1 = 0 := by grind
/-- what the three weights make of the numbers -/
theorem mix_law {lt : Lit} {i j k : Nat} (hi : i < j) (hj : j < k) (bi : (0 ≤ (lt i).1 ∧ (lt i).1 ≤ 128) ∧ (0 ≤ (lt i).2.1 ∧ (lt i).2.1 ≤ 128) ∧ (0 ≤ (lt i).2.2 ∧ (lt i).2.2 ≤ 128)) (bj : (0 ≤ (lt j).1 ∧ (lt j).1 ≤ 128) ∧ (0 ≤ (lt j).2.1 ∧ (lt j).2.1 ≤ 128) ∧ (0 ≤ (lt j).2.2 ∧ (lt j).2.2 ≤ 128)) (bk : (0 ≤ (lt k).1 ∧ (lt k).1 ≤ 128) ∧ (0 ≤ (lt k).2.1 ∧ (lt k).2.1 ≤ 128) ∧ (0 ≤ (lt k).2.2 ∧ (lt k).2.2 ≤ 128)) :
    wgtOf lt (i, j, k) i * numOf lt i + (wgtOf lt (i, j, k) j * numOf lt j + (wgtOf lt (i, j, k) k * numOf lt k + 0)) = 65793 * (wgtOf lt (i, j, k) i * (lt i).2.2 + (wgtOf lt (i, j, k) j * (lt j).2.2 + (wgtOf lt (i, j, k) k * (lt k).2.2 + 0))) ∧
    (wgtOf lt (i, j, k) i * (lt i).2.2 + (wgtOf lt (i, j, k) j * (lt j).2.2 + (wgtOf lt (i, j, k) k * (lt k).2.2 + 0))).natAbs ≤ 16777216 := by
  have w1 : wgtOf lt (i, j, k) i = crossOf lt j k := by unfold wgtOf; rw [if_pos rfl]
  have w2 : wgtOf lt (i, j, k) j = crossOf lt k i := by unfold wgtOf; rw [if_neg (by dsimp only; omega), if_pos rfl]
  have w3 : wgtOf lt (i, j, k) k = crossOf lt i j := by unfold wgtOf; rw [if_neg (by dsimp only; omega), if_neg (by dsimp only; lia), if_pos rfl]
  rw [w1, w2, w3]
  refine ⟨?_, ?_⟩
  · have h1 := ring3 ((lt i).1 - (lt i).2.2) ((lt i).2.1 - (lt i).2.2) ((lt j).1 - (lt j).2.2) ((lt j).2.1 - (lt j).2.2) ((lt k).1 - (lt k).2.2) ((lt k).2.1 - (lt k).2.2)
    have h2 := ring3 ((lt i).2.1 - (lt i).2.2) ((lt i).1 - (lt i).2.2) ((lt j).2.1 - (lt j).2.2) ((lt j).1 - (lt j).2.2) ((lt k).2.1 - (lt k).2.2) ((lt k).1 - (lt k).2.2)
    unfold crossOf numOf
    grind
  · have h1 := mul_b (x := crossOf lt j k) (y := (lt i).2.2) (A := 32768) (B := 128) (cross_b bj bk) (by omega)
    have h2 := mul_b (x := crossOf lt k i) (y := (lt j).2.2) (A := 32768) (B := 128) (cross_b bk bi) (by omega)
    have h3 := mul_b (x := crossOf lt i j) (y := (lt k).2.2) (A := 32768) (B := 128) (cross_b bi bj) (by omega)
    have e : (32768 : Int).natAbs * (128 : Int).natAbs = 4194304 := by decide
    rw [e] at h1 h2 h3
    omega
theorem div_shape {h₀ h : Heap} {L Dw lw c3 : Addr} {ow ol oc t30 t37 : Obj} {tl2 led KK : Led} (N : News h₀ L h (tl2 ++ (30, t30) :: (37, t37) :: filt led)) (ap : Apart tl2 ((30, t30) :: (37, t37) :: filt led))
    (hw : (Dw, ow) ∈ led) (hl : (lw, ol) ∈ led) (hc : (c3, oc) ∈ led) (h1 : @LT.lt Nat _ 37 c3) (h2 : @LT.lt Nat _ c3 lw) (h3 : @LT.lt Nat _ lw Dw) (hK : ∀ p ∈ KK, p ∈ led ∧ p.1 ≠ 30 ∧ p.1 ≠ 37) (x5 : ∀ p ∈ KK, p.1 ≠ lw) (y5 : ∀ p ∈ KK, p.1 ≠ c3) :
    ∃ Y, Y = tl2 ++ (30, t30) :: (37, t37) :: KK ∧ News h₀ L h ((Dw, ow) :: (lw, ol) :: (c3, oc) :: Y) ∧ (∀ p ∈ Y, p.1 ≠ lw) ∧ (∀ p ∈ Y, p.1 ≠ c3) ∧ (∀ p ∈ (c3, oc) :: Y, p.1 ≠ lw) := by
  have fl : (lw, ol) ∈ filt led := mem_filt hl (gt_ne (by omega)) (gt_ne (by omega))
  have fc : (c3, oc) ∈ filt led := mem_filt hc (gt_ne (by omega)) (gt_ne h1)
  have fw : (Dw, ow) ∈ filt led := mem_filt hw (gt_ne (by omega)) (gt_ne (by omega))
  have a1 : ∀ p ∈ tl2 ++ (30, t30) :: (37, t37) :: KK, p.1 ≠ lw := fun p hp => by
    rcases List.mem_append.mp hp with hp | hp
    · exact Ne.symm (ap _ (List.mem_cons_of_mem _ (List.mem_cons_of_mem _ fl)) p hp)
    · exact ne_cons (Nat.ne_of_lt (by omega)) (ne_cons (Nat.ne_of_lt (by omega)) x5) p hp
  have a2 : ∀ p ∈ tl2 ++ (30, t30) :: (37, t37) :: KK, p.1 ≠ c3 := fun p hp => by
    rcases List.mem_append.mp hp with hp | hp
    · exact Ne.symm (ap _ (List.mem_cons_of_mem _ (List.mem_cons_of_mem _ fc)) p hp)
    · exact ne_cons (Nat.ne_of_lt (by omega)) (ne_cons (Nat.ne_of_lt h1) y5) p hp
  refine ⟨_, rfl, news_sub N fun p hp => ?_, a1, a2, ne_cons (Nat.ne_of_lt h2) a1⟩
  rcases List.mem_cons.mp hp with rfl | hp
  · simp [fw]
  · rcases List.mem_cons.mp hp with rfl | hp
    · simp [fl]
    · rcases List.mem_cons.mp hp with rfl | hp
      · simp [fc]
      · rcases List.mem_append.mp hp with hp | hp
        · simp [hp]
        · rcases List.mem_cons.mp hp with rfl | hp
          · simp
          · rcases List.mem_cons.mp hp with rfl | hp
            · simp
            · have := hK p hp
              have := mem_filt this.1 this.2.1 this.2.2
              simp [this]
section
variable {prog : Program} {w : World} {A : Around} {E : Value → Shared → Prop} {s : Shared} {h₀ : Heap} {L D : Addr} {m : Str → Option Value} {news : Led}
theorem app_upd {its : Array Value} {n : Nat} {x : Value} {g : Obj → Led} {Q : Value → Shared → Prop} (F : Fr h₀ L s.heap m) (N : News h₀ L s.heap news) (U : UpdF D (W.listOf its n) news g)
    (h : ∀ h', Fr h₀ L h' m → News h₀ L h' (g (W.listOf (its.push x) (n + 1))) → Q .none { s with heap := h' }) (hsz : its.size ≤ sizeLine := by size_fits) : wpAny (model prog w) A (call (.builtin "list.append") [.ref D, x]) Q E s := by
  obtain ⟨pre, post, rfl, hg, hp, hq⟩ := U.split
  refine append_led F N (List.mem_append_right _ (List.mem_cons_self ..)) (fun h' F' N' => h h' F' (news_sub N' fun p hpm => ?_)) hsz
  rw [hg] at hpm
  rcases List.mem_append.mp hpm with hm | hm
  · exact updL_mem (List.mem_append_left _ hm) (hp p hm)
  · rcases List.mem_cons.mp hm with rfl | hm
    · exact updL_new (List.mem_append_right _ (List.mem_cons_self ..))
    · exact updL_mem (List.mem_append_right _ (List.mem_cons_of_mem _ hm)) (hq p hm)
end
theorem T0_small {z : Nat} (hz : z = 4 ∨ z = 6) : (T0 z z).length ≤ 20 := by
  rcases hz with rfl | rfl <;> decide
theorem cend_str {h₀ : Heap} {L : Addr} {m : Str → Option Value} {led : Led} {s : Shared} {x y : Str} {u : Tok} {h' : Heap} {tk' : Nat} (e : y = x) (F : Fr h₀ L h' m) (N : News h₀ L h' led) :
    CEnd h₀ L m led s (fun v => ∃ t, v = Value.str x t) (.str y u) { s with heap := h', toks := tk' } := CEnd.of F N ⟨u, by rw [e]⟩
theorem sign_0 {x : Int} (h : x = 0) : (Str.ofString ".") = signOf x := by
  unfold signOf; rw [if_pos h]
theorem sign_A {x : Int} (h : x ≠ 0) (h2 : x < 0) : (Str.ofString "A") = signOf x := by
  unfold signOf; rw [if_neg h, if_pos h2]
theorem sign_a {x : Int} (h : x ≠ 0) (h2 : ¬ x < 0) : (Str.ofString "a") = signOf x := by
  unfold signOf; rw [if_neg h, if_neg h2]
theorem has_no {x : Str} (h : (Builtin.Str.occurrences (Txt.lower x) (Str.ofString "a") 0 (Txt.lower x).length 1).isEmpty = true) : ¬ hasA x = true := by
  show ¬ (!(Builtin.Str.occurrences (Txt.lower x) (Str.ofString "a") 0 (Txt.lower x).length 1).isEmpty) = true
  rw [h]; decide
theorem has_yes {x : Str} (h : ¬ (Builtin.Str.occurrences (Txt.lower x) (Str.ofString "a") 0 (Txt.lower x).length 1).isEmpty = true) : hasA x = true := by
  show (!(Builtin.Str.occurrences (Txt.lower x) (Str.ofString "a") 0 (Txt.lower x).length 1).isEmpty) = true
  simpa using h
theorem has_yes2 {x : Str} (h : (Builtin.Str.occurrences (Txt.lower x) (Str.ofString "a") 0 (Txt.lower x).length 1).isEmpty = false) : hasA x = true := by
  show (!(Builtin.Str.occurrences (Txt.lower x) (Str.ofString "a") 0 (Txt.lower x).length 1).isEmpty) = true
  rw [h]; rfl
theorem sign_len (x : Int) : (signOf x).length = 1 := by
  unfold signOf; repeat' split
  all_goals rfl
theorem sign_ones (f : Nat → Int) (z : Nat) : ∀ g ∈ (List.range z).map (fun j => signOf (f j)), g.length = 1 := fun g hg => by
  obtain ⟨j, _, rfl⟩ := List.mem_map.mp hg
  exact sign_len _
theorem turn_end {lw c3 I : Addr} {R own tl tl2 led all : Led} {m₀ m' : Str → Option Value} {z i n : Nat} {lt : Lit} {t30 t37 t30o t37o oW : Obj} {vW : Option Value} {ws : List Value} {q : Tri} {oc ol oc2 ol2 : Obj} {wsA : Array Value}
    (hm : OffStored ["i", "j", "k", "mix", "grey", "word"] m₀ m') (hW : oW.data = Data.cell vW) (hq : (T0 z z)[i]? = some q)
    (hws : StrsAre ws ((((T0 z z).take (i + 1)).map (mixWord z lt)).filter hasA)) (hwl : ws.length ≤ i + 1) (hwa : wsA = ws.toArray)
    (hT : Tabs2 t30 t37 (tl2 ++ (tl ++ R))) (htl : ∀ p ∈ tl, p.1 ≠ lw ∧ p.1 ≠ c3 ∧ p.1 ≠ 30 ∧ p.1 ≠ 37 ∧ ∀ q ∈ R, q.1 ≠ p.1) (ap : Apart tl2 ((30, t30) :: (37, t37) :: filt led)) (fl : (lw, ol) ∈ filt led) (fc : (c3, oc) ∈ filt led) (fR : ∀ p ∈ R, p ∈ filt led)
    (hoff : ∀ p ∈ (lw, ol2) :: (c3, oc2) :: (tl ++ (30, t30o) :: (37, t37o) :: R), p.1 ∉ [I]) (hI2 : ∀ p ∈ tl2, p.1 ≠ I)
    (sub : ∀ p ∈ (lw, W.listOf wsA n) :: (c3, oW) :: (tl2 ++ (30, t30) :: (37, t37) :: (own ++ (tl ++ R))), p ∈ all) :
    ∃ news', WJ lw c3 R m₀ z lt (i + 1) m' news' ∧ (∀ p ∈ news', p.1 ∉ [I]) ∧ ∀ p ∈ own ++ news', p ∈ all := by
  subst hwa
  refine ⟨(lw, W.listOf ws.toArray n) :: (c3, oW) :: ((tl2 ++ tl) ++ (30, t30) :: (37, t37) :: R), ⟨hm, t30, t37, tl2 ++ tl, ws, n, oW, vW, rfl, hW, ?_, ?_, hwl, hws⟩, ?_, ?_⟩
  · intro p hp
    rcases List.mem_append.mp hp with hp | hp
    · have a1 := ap _ (List.mem_cons_of_mem _ (List.mem_cons_of_mem _ fl)) p hp
      have a2 := ap _ (List.mem_cons_of_mem _ (List.mem_cons_of_mem _ fc)) p hp
      have a3 := ap _ (List.mem_cons_self ..) p hp
      have a4 := ap _ (List.mem_cons_of_mem _ (List.mem_cons_self ..)) p hp
      exact ⟨Ne.symm a1, Ne.symm a2, Ne.symm a3, Ne.symm a4, fun q hq => ap q (List.mem_cons_of_mem _ (List.mem_cons_of_mem _ (fR q hq))) p hp⟩
    · exact htl p hp
  · exact hT.mono fun p hp => by simp at hp ⊢; grind
  · intro p hp
    rcases List.mem_cons.mp hp with rfl | hp
    · exact hoff (lw, ol2) (by simp)
    · rcases List.mem_cons.mp hp with rfl | hp
      · exact hoff (c3, oc2) (by simp)
      · rcases List.mem_append.mp hp with hp | hp
        · rcases List.mem_append.mp hp with hp | hp
          · simpa using hI2 p hp
          · exact hoff p (by simp [hp])
        · rcases List.mem_cons.mp hp with rfl | hp
          · exact hoff (30, t30o) (by simp)
          · rcases List.mem_cons.mp hp with rfl | hp
            · exact hoff (37, t37o) (by simp)
            · exact hoff p (by simp [hp])
  · intro p hp
    exact sub p (by simp at hp ⊢; grind)
theorem words_add {z i : Nat} {lt : Lit} {q : Tri} {ws : List Value} {t : Tok} (hq : (T0 z z)[i]? = some q) (hws : StrsAre ws ((((T0 z z).take i).map (mixWord z lt)).filter hasA)) (h : hasA (mixWord z lt q) = true) :
    StrsAre (ws ++ [.str (mixWord z lt q) t]) ((((T0 z z).take (i + 1)).map (mixWord z lt)).filter hasA) := by
  rw [List.take_succ, hq, List.map_append, List.filter_append]
  simpa [h] using StrsAre.append' hws (.cons _ t .nil)
theorem words_skip {z i : Nat} {lt : Lit} {q : Tri} {ws : List Value} (hq : (T0 z z)[i]? = some q) (hws : StrsAre ws ((((T0 z z).take i).map (mixWord z lt)).filter hasA)) (h : ¬ hasA (mixWord z lt q) = true) :
    StrsAre ws ((((T0 z z).take (i + 1)).map (mixWord z lt)).filter hasA) := by
  rw [List.take_succ, hq, List.map_append, List.filter_append]
  simpa [h] using hws
theorem word_len {z : Nat} (f : Nat → Int) (hz : z ≤ 6) : (Txt.join (Str.ofString "") ((List.range z).map fun j => signOf (f j))).length ≤ 6 := by
  rw [PySem.W.KT.join_ones _ (sign_ones f z)]; simpa using hz
theorem num_call {w : World} {own rest tl : Led} {t30 t37 : Obj} {lt : Lit} {i : Nat} {ys : List Value} {I C D a : Addr} {oI oC oD : Obj} {nn : Nat} {t0 t1 t2 tn : Tok} {p : Program} {loose : List Str} {mean : ExcName → Option Value} {mg mb : Str → Option Value}
    {dp un : Nat} {gd : Option (List Code)} {cn : Str} {cs : Scope} {a' : Addr} {ccd : Value} {cl : List (Str × Addr)} {outer : List Env} {A₀ : Around} {base h₀ : Heap} {L : Addr} {m : Str → Option Value} {s : Shared} {Q E : Value → Shared → Prop}
    (B : Below A₀ base outer h₀) (F : Fr h₀ L s.heap m) (X : (KK w.params).In h₀) (N : News h₀ L s.heap ((I, oI) :: (C, oC) :: (D, oD) :: (own ++ (tl ++ (30, t30) :: (37, t37) :: rest)))) (T : Top p loose mean mg mb h₀) (hk : cs.kind = .function)
    (hd : dp + 6 < recursionLimit) (hu : un + 8 * 6 < cLine)
    (ham : (a, W.listOf #[.int (lt i).1 t0, .int (lt i).2.1 t1, .int (lt i).2.2 t2] nn) ∈ rest) (b0 : 0 ≤ (lt i).1 ∧ (lt i).1 ≤ 128) (b1 : 0 ≤ (lt i).2.1 ∧ (lt i).2.1 ≤ 128) (b2 : 0 ≤ (lt i).2.2 ∧ (lt i).2.2 ≤ 128)
    (ap : Apart tl (own ++ (30, t30) :: (37, t37) :: rest)) (hMt : MkTab 47 4 qD2I t37 (tl ++ rest)) (hi : IntsAre ys ((List.range i).map (numOf lt)))
    (off : Off3 I C D (own ++ (tl ++ (30, t30) :: (37, t37) :: rest))) (hP2 : ∀ p ∈ rest, p.1 ≠ 37) (hO2 : ∀ p ∈ own, p.1 ≠ 37)
    (ret : ∀ y h' tk' all, Fr h₀ L h' m → News h₀ L h' all → (∃ t, y = .int (numOf lt i) t) → (∃ led', (∀ p ∈ (I, oI) :: (C, oC) :: (D, oD) :: led', p ∈ all) ∧ Off3 I C D led' ∧ NJ own rest t30 lt (i + 1) (ys ++ [y]) led') → Q y { s with heap := h', toks := tk' }) :
    wpAny (model MyProg w) (ktrTop dp un gd cn cs L a' ccd cl outer) (call (.ref 42) [.ref a, .int 8 tn]) Q E s := by
  have hoff := Off3.mem off
  refine callT_use (d2i8_spec w ((I, oI) :: (C, oC) :: (D, oD) :: (own ++ tl ++ (30, t30) :: rest)) ?_ a nn _ (lt i).1 (lt i).2.1 (lt i).2.2 t0 t1 t2 (by simp [ham]) (by omega) (by omega) (by omega) t37 (hMt.mono fun p hp => by simp at hp ⊢; grind)) B F X N ?_ T hk hd hu ?_
  · have h37 := hoff (37, t37) (by simp)
    refine ne_cons (Ne.symm h37.1) (ne_cons (Ne.symm h37.2.1) (ne_cons (Ne.symm h37.2.2) fun p hp => ?_))
    rcases List.mem_append.mp hp with hp | hp
    · rcases List.mem_append.mp hp with hp | hp
      · exact hO2 p hp
      · exact Ne.symm (ap (37, t37) (by simp) p hp)
    · exact ne_cons (by decide) hP2 p hp
  · intro p hp
    simp at hp ⊢; grind
  intro r2 led2 tl2 t37' h2 k2 F2 N2 el2 ap2 ⟨hM3, tv, er⟩
  subst er
  exact ret _ _ _ _ F2 N2 ⟨tv, rfl⟩ (NJ.step rfl ap hMt hi el2 ap2 hM3 off)
end

section
open PyProof.Rows.LCg
theorem tabs_form {a b : Obj} {l : Led} (h : Tabs2 a b l) : ∃ ps qs, a = tabObj ps ∧ b = tabObj qs := by
  obtain ⟨h1, _, _, _, _, h2, _⟩ := h
  rcases h1 with h1 | ⟨_, _, _, _, h1, _⟩
  · exact ⟨_, _, h1, h2⟩
  · exact ⟨_, _, h1, h2⟩
theorem lt_63 {j z : Nat} (h : j < z) (hz : z = 4 ∨ z = 6) : ((j : Nat) : Int) < 2 ^ 63 := by omega
theorem len_fits {wl : List Value} {z : Nat} (h : wl.length = z) (hz : z = 4 ∨ z = 6) : wl.toArray.size ≤ sizeLine := by rw [List.size_toArray, sizeLine_eq]; omega
theorem z_100 {z : Nat} (hz : z = 4 ∨ z = 6) : z ≤ 100 := by omega
theorem z_6 {z : Nat} (hz : z = 4 ∨ z = 6) : z ≤ 6 := by omega
theorem z_62 {z : Nat} (hz : z = 4 ∨ z = 6) : z < 2 ^ 62 := by omega
theorem lines_MMixes : True := by
  k_with_none
  k_with "my mem" => (first | assumption | k_mem)
  k_with "my kmem" => (first | assumption | (refine List.mem_append_right _ ?_; k_mem) | (refine List.mem_cons_of_mem _ ?_; k_mem))
  k_with "my kmem" => (exact List.mem_cons_self ..)
  k_with "subscriptTail Name Name ref int" => (walk_at "my item")
  k_with "subscriptTail Name Constant ref int" => (walk_at "my item")
  k_with "my item" => ((with_reducible show wpAny _ _ (subscriptTail _ _ (Value.ref _) (Value.int _ _)) _ _ _); k_dflt (refine item_led (by k_asm) (by walk_at "my mem") (by first | decide | with_reducible assumption | omega) (by first | decide | with_reducible assumption | omega) (by first | with_reducible assumption | exact rfl) ?_ (by with_unfolding_all rfl); k_whole))
  k_with "call builtin:len" => (k_here; (with_reducible show wpAny _ _ (call (Value.builtin "len") [Value.ref _]) _ _ _); k_dflt (refine len_led (by k_asm) (by walk_at "my mem") (by first | assumption | exact rfl) (by first | with_reducible assumption | omega) ?_; k_whole); intro t' k')
  k_with "my for" => (k_here; (rename Fr _ _ _ _ => lF'); (with_unfolding_all refine For_turns lF' ?_; k_whole))
  k_with "my frame" => (repeat' (first | exact OffStored.base | exact OffStored.refl _ _ | refine OffStored.put (by decide) ?_))
  k_with "my append" => (k_here; k_dflt (show wpAny _ _ (call (Value.builtin "list.append") [Value.ref _, _]) _ _ _); k_dflt (refine append_led (by k_asm) (by k_asm) (by walk_at "my mem") ?_ (by first | assumption | size_fits)); intro h' F' N')
  k_with "my div" => (k_here; (with_reducible show wpAny _ _ (binaryOp _ (Value.int _ _) (Value.float _ _)) _ _ _); k_dflt (refine div_if (by exact rfl) (by first | assumption | omega) (by decide +kernel) ?_; k_whole))
  k_with "my join" => (refine JoinP.of (by k_asm) (by k_asm) (by (intro y hy; first | rfl | exact if_neg hy)) ?_)
  k_with "storeName" => (k_here; (try dsimp only); k_dflt (refine storeX_L (by k_asm) (by k_asm) ?_ (by rfl) (by rfl); k_whole; intro h' F' N'; (try k_sweep)))
  k_with "my enterC" => (refine code_defC (by k_asm) (by k_asm) (by k_asm) (by k_asm) (by k_asm) (by exact rfl) (by exact rfl) (by assumption) (by k_is) (by k_is) (by ktr_room) (by exact BindsTo.of_eq rfl) (by exact rfl) (by decide +kernel) ?_ (by exact rfl) (by exact rfl) (by exact rfl); k_whole; intro g' L' h' tk' cells' FG' F' N' Y' B' X' T' l1; k_cells Y'; (try simp only [List.cons_append, List.nil_append] at N'); (try dsimp only); (try k_lift B'); (try k_fold))
  k_with "setItem ref int" => (k_here; k_dflt (refine set_led (by k_asm) (by k_asm) (by walk_at "my mem") (by first | assumption | omega) (by first | assumption | omega) (by first | assumption | omega) ?_; k_whole); intro h' F' N')
  k_with "my tup" => ((with_reducible show wpAny _ _ (subscriptTail _ _ (Value.ref _) (Value.int _ _)) _ _ _); k_dflt (refine tup_led (by k_asm) (by walk_at "my mem") (by first | decide | with_reducible assumption | omega) (by first | decide | with_reducible assumption | omega) (by first | with_reducible assumption | exact rfl) ?_ (by with_unfolding_all rfl); k_whole))
  k_with "my comp" => (k_here; k_dflt (refine PyProof.Rows.LCg.CompSrc.ledger (by rfl) (by k_asm) (by k_asm) (by walk_at "my mem") (by first | assumption | size_fits | exact Nat.le_of_ble_eq_true rfl) ?_); intro g'; refine Halt.go ?_)
  k_with "my str.join" => (k_here; k_dflt (show wpAny _ _ (call (Value.builtin "str.join") [Value.str _ _, Value.ref _]) _ _ _); k_dflt (refine join_led (by k_asm) (by walk_at "my mem") (by assumption) (by assumption) (by assumption) (by decide +kernel) ?_); intro t' k')
  k_with "my free" => (k_here; (with_reducible show wpAny _ _ (eval (Expr.Name _ _) (compEnvC _ _ _ _)) _ _ _); k_dflt (refine ld_free (by rfl) (by k_asm) (by rfl) (by assumption) (by assumption) ?_))
  trivial

theorem more_MMixes_1 : True := by
  k_with "my all" => (with_reducible assumption)
  k_with "my ne" => (first | (show @Ne Nat _ _; omega) | exact Ne.symm (ne_of_off1 (by assumption) (_, _) (by k_mem)) | exact ne_of_off1 (by assumption) (_, _) (by k_mem))
  k_with "my updF" => (first | exact (UpdF.head (by with_reducible assumption)) | exact (UpdF.tail (by walk_at "my ne") (UpdF.head (by with_reducible assumption))) | exact (UpdF.tail (by walk_at "my ne") (UpdF.tail (by walk_at "my ne") (UpdF.head (by with_reducible assumption)))) | exact (UpdF.tail (by walk_at "my ne") (UpdF.tail (by walk_at "my ne") (UpdF.tail (by walk_at "my ne") (UpdF.head (by with_reducible assumption))))) | exact (UpdF.tail (by walk_at "my ne") (UpdF.tail (by walk_at "my ne") (UpdF.tail (by walk_at "my ne") (UpdF.tail (by walk_at "my ne") (UpdF.head (by with_reducible assumption)))))) | exact (UpdF.tail (by walk_at "my ne") (UpdF.tail (by walk_at "my ne") (UpdF.tail (by walk_at "my ne") (UpdF.tail (by walk_at "my ne") (UpdF.tail (by walk_at "my ne") (UpdF.head (by with_reducible assumption))))))) | exact (UpdF.tail (by walk_at "my ne") (UpdF.tail (by walk_at "my ne") (UpdF.tail (by walk_at "my ne") (UpdF.tail (by walk_at "my ne") (UpdF.tail (by walk_at "my ne") (UpdF.tail (by walk_at "my ne") (UpdF.head (by with_reducible assumption)))))))))
  k_with "exec For Tuple Call cons nil" => (walk_at "my for")
  k_with "CompSrc" => (walk_at "my comp")
  k_with "eval Name" => (k_here; (with_reducible show wpAny _ _ (eval (Expr.Name _ _) (compEnvC _ _ _ _)) _ _ _); k_dflt (refine ld_free (by rfl) (by k_asm) (by rfl) (by k_mem) (by assumption) ?_))
  k_with "eval ListComp" => (k_here; (with_reducible show wpAny _ _ (eval (Expr.ListComp _ [⟨_, Expr.Tuple _ _ _, _, _⟩] _ _) _) _ _ _); k_dflt (refine ListComp_tup (F₀ := by k_asm) (by with_unfolding_all rfl) (by decide) (by rfl) (by decide) (by rfl) ?_))
  k_with "call ref" => (k_here; (with_reducible show wpAny _ _ (call _ [Value.ref _, Value.int _ _]) _ _ _); refine Halt.go ?_)
  k_with "call ref" => (k_here; (with_reducible show wpAny _ _ (call _ [Value.int _ _]) _ _ _); refine Halt.go ?_)
  k_with "call ref" => (k_here; (with_reducible show wpAny _ _ (call _ [Value.ref _, Value.ref _]) _ _ _); k_dflt (refine call_use2 (by k_asm) (by k_asm) (by k_asm) (by k_asm) (by k_asm) (by first | exact rfl | assumption) (cross_spec _ _ _ _ _ _ _ _ _ _ _ _ _ _ _ _ _ _ (by k_mem) (by k_mem) (by assumption) (by assumption) (by assumption)) (by ktr_room) (by ktr_units) ?_); rintro r' tl' h' tk' F' N' o' ⟨e0', t0', e1'⟩; subst e0'; subst e1'; (try k_sweep))
  k_with "binaryOp Mult ref int" => (k_here; (with_reducible show wpAny _ _ (binaryOp Operator.Mult (Value.ref _) (Value.int _ _)) _ _ _); k_dflt (refine mul_zeros (by k_asm) (by k_asm) (by k_mem) (by exact rfl) (by omega) ?_); intro D' h' F' N' l'; (try k_lt l'))
  k_with "setItem ref int" => (k_here; k_dflt (refine set_upd (by k_asm) (by k_asm) (by k_updF) (by with_reducible assumption) (by (simp only [List.length_set, List.length_replicate]; omega)) (by with_reducible assumption) ?_); intro h' F' N'; (try dsimp only at N'); (try k_sweep); refine Halt.go ?_)
  k_with "subscriptTail Subscript Name Name Constant ref int" => ((with_reducible show wpAny _ _ (subscriptTail _ _ (Value.ref _) (Value.int _ _)) _ _ _); k_dflt (refine item_led (its := [_, _, _]) (by k_asm) (by walk_at "my mem") (by decide) (by decide) (by exact rfl) ?_ (by with_unfolding_all rfl); k_whole))
  k_with "call ref" => (k_here; (with_reducible show wpAny _ _ (call _ [Value.int _ _, Value.int _ _]) _ _ _); refine Halt.go ?_)
  k_with "call builtin:str.join" => (walk_at "my str.join")
  k_with "call builtin:list.append" => (k_here; k_dflt (refine app_upd (by k_asm) (by k_asm) (by k_updF) ?_ (by first | assumption | size_fits)); intro h' F' N'; (try dsimp only at N'); (try k_sweep))
  trivial
theorem mixes_spec (w : World) (rest : Led) (hP : ∀ p ∈ rest, p.1 ≠ 30) (hP2 : ∀ p ∈ rest, p.1 ≠ 37) (ll : Addr) (ls : List Addr) (n0 z : Nat) (lt : Lit) (hl : LightsAt rest ll ls n0 z lt) (hz : z = 4 ∨ z = 6)
   (hb : ∀ j, j < z → (0 ≤ (lt j).1 ∧ (lt j).1 ≤ 128) ∧ (0 ≤ (lt j).2.1 ∧ (lt j).2.1 ≤ 128) ∧ (0 ≤ (lt j).2.2 ∧ (lt j).2.2 ≤ 128)) :
   CallSpecM w 120 [.ref ll] (tabObj #[]) (tabObj #[]) rest 20 (fun tl t30' t37' r => ∃ (lw : Addr) (ws : List Value) (n : Nat), r = .ref lw ∧ (lw, W.listOf ws.toArray n) ∈ tl ∧ StrsAre ws (((T0 z z).map (mixWord z lt)).filter hasA) ∧ ∃ ps qs, t30' = tabObj ps ∧ t37' = tabObj qs) := by
  w_on
  intro p loose mean mg mb dp un gd cn cs a' ccd cl outer A₀ base h₀ L m s Q E B F X N T hk hd hu hret
  refine wpAny_call ?_
  k_dflt walk_at "my enterC"
  obtain ⟨hl1, hlen, hall⟩ := hl
  rename Obj.data _ = Data.cell _ => dL
  replace dL := data_cell dL (y := Data.cell (some (Value.ref ll))) (by with_unfolding_all rfl)
  have hls : (ls.map Value.ref).toArray.size ≤ sizeLine := by simp [sizeLine]; omega
  k_steps
  refine Halt.mk ?_
  rename News _ _ _ _ => N1
  rename Fr _ _ _ _ => F1
  rename _ ∧ _ ∧ _ ∧ 30 < _ ∧ _ => l2
  rename ∀ p ∈ (30, _) :: _, p.1 < _ => l1
  have l37 := l1 (37, tabObj #[]) (by simp)
  have lR : ∀ p ∈ rest, @LT.lt Nat _ p.1 _ := fun p hp => l1 p (by simp [hp])
  have l37' : 37 < _ := l37
  clear N1 F1
  refine comp_inv (NJ _ rest (tabObj #[]) lt) (fun i ys led hJ => src_led (hJ.mem hl1)) NJ.start ?_ ?_
  · rintro i v ys led I oI C oC D m2 h tk E' hi hPv ⟨t37, tl, rfl, ap, hMt, hMm, hys⟩ hC hx F N off
    have hi' : i < z := by simpa [hlen] using hi
    obtain ⟨a, nn, t0, t1, t2, ea, ham⟩ := hall i hi'
    have ev : v = .ref a := by simpa [ea] using hPv.symm
    subst ev
    obtain ⟨b0, b1, b2⟩ := hb i hi'
    k_steps
    refine Halt.mk ?_
    refine num_call (by k_asm) F (by k_asm) N (by k_asm) (by first | exact rfl | assumption) (by ktr_room) (by ktr_units) ham b0 b1 b2 ap hMt hys off hP2 ?_ ?_
    · exact ne_cons (gt_ne (by omega)) (ne_cons (gt_ne (by omega)) (ne_cons (gt_ne (by omega)) (ne_cons (gt_ne (by omega)) (fun _ h => nomatch h))))
    rintro y h2 k2 led2 F2 N2 ⟨tv, ey⟩ hj
    subst ey
    clear F N
    k_steps
    exact CEndJ.of F2 N2 hj
  · rintro ys led ⟨t37, tl, hled, ap, hMt, hMm, hys⟩
    replace hled : led = _ :: _ :: _ :: _ :: (tl ++ (30, tabObj #[]) :: (37, t37) :: rest) := hled
    subst hled
    have hM := hMm (by simp [hlen]; omega)
    obtain ⟨X, hX⟩ : ∃ X, X = tl ++ (30, tabObj #[]) :: (37, t37) :: rest := ⟨_, rfl⟩
    rw [← hX]
    have x1 := X_ne (t30' := tabObj #[]) (t37' := t37) ap ⟨_, List.mem_cons_of_mem _ (List.mem_cons_self ..)⟩ (by omega) (fun p hp => Nat.ne_of_lt (Nat.lt_of_lt_of_le (lR p hp) (by omega)))
    have x2 := X_ne (t30' := tabObj #[]) (t37' := t37) ap ⟨_, List.mem_cons_of_mem _ (List.mem_cons_of_mem _ (List.mem_cons_self ..))⟩ (by omega) (fun p hp => Nat.ne_of_lt (Nat.lt_of_lt_of_le (lR p hp) (by omega)))
    have x3 := X_ne (t30' := tabObj #[]) (t37' := t37) ap ⟨_, List.mem_cons_of_mem _ (List.mem_cons_of_mem _ (List.mem_cons_of_mem _ (List.mem_cons_self ..)))⟩ (by omega) (fun p hp => Nat.ne_of_lt (Nat.lt_of_lt_of_le (lR p hp) (by omega)))
    rw [← hX] at x1 x2 x3
    have hRX : ∀ p ∈ rest, p ∈ X := fun p hp => by rw [hX]; simp [hp]
    have hlX := hRX _ hl1
    have hlz : (ls.map Value.ref).length = z := by simp [hlen]
    have hz62 := z_62 hz
    k_steps
    refine Halt.mk ?_
    rename News _ _ _ _ => N1
    rename Fr _ _ _ _ => F1
    rename _ ≠ _ ∧ _ ≠ _ ∧ _ ∧ _ ∧ Off1 _ X => oD
    refine call_use (threes_spec w _ z _ hz) (by k_asm) F1 (by k_asm) N1 (by k_asm) (by first | exact rfl | assumption) (by ktr_room) (by ktr_units) ?_
    rintro r3 tl3 h3 k3 F3 N3 ap3 ⟨D3, as3, rfl, hD3, hl3, hall3⟩
    obtain ⟨R, hR, hyR, hNR, hLR, N4⟩ := loop_shape hX N3
    have hRne := R_ne hX ap3 oD (fun p hp => ⟨Ne.symm (ap (_, _) (List.mem_append_left _ (List.mem_cons_self ..)) p hp), Ne.symm (ap (_, _) (List.mem_append_left _ (List.mem_cons_of_mem _ (List.mem_cons_self ..))) p hp), Ne.symm (ap (30, tabObj #[]) (by simp) p hp), Ne.symm (ap (37, t37) (by simp) p hp)⟩) l2.1 (by omega) (by omega) (by omega) l37 lR hP hP2
    rw [← hR] at hRne
    have hDR : (D3, lst (as3.map Value.ref)) ∈ R := by rw [hR]; simp [hD3]
    have hrR : ∀ p ∈ rest, p ∈ R := fun p hp => by rw [hR]; simp [hp]
    have h3R : ∀ p ∈ tl3, p ∈ R := fun p hp => by rw [hR]; simp [hp]
    have hT2 : Tabs2 (tabObj #[]) t37 R := ⟨Or.inl rfl, hM.mono fun p hp => by rw [hR]; simp at hp ⊢; grind⟩
    clear N1 F1 N3
    with_unfolding_all refine list_turns (WJ _ _ R _ z lt) rfl F3 N4 (List.mem_cons_of_mem _ (List.mem_cons_of_mem _ (List.mem_cons_of_mem _ (List.mem_cons_of_mem _ hDR)))) (WJ.start (by assumption) hT2) ?_ ?_
    · rintro i v m₁ news₁ h₁ tk₁ own I hv ⟨hm₁, t30', t37', tl', ws, n, oW, vW, rfl, hoW, hoffW, hT3, hwl, hws⟩ hltI hoff hown hI F5 N5
      obtain ⟨u, rfl⟩ := hm₁.form
      obtain ⟨X5, hX5, N6, x5, y5, hRX5⟩ := turn_shape N5 hoff hown (hRne _ hDR).1 (hRne _ hDR).2.1 hoffW hRne (by omega) l2.1
      have hi3 : i < (T0 z z).length := by
        have := (List.getElem?_eq_some_iff.mp hv).1
        simp at this; omega
      obtain ⟨q, hq⟩ : ∃ q, (T0 z z)[i]? = some q := ⟨_, List.getElem?_eq_getElem hi3⟩
      have hql := T0_lt (List.mem_of_getElem? hq)
      obtain ⟨qi, qj, qk⟩ := q
      dsimp only at hql
      obtain ⟨av, s0, s1, s2, eav, htup⟩ := hall3 i _ hq
      have ev : v = .ref av := by simpa [eav] using hv.symm
      subst ev
      have htup := hRX5 _ (h3R _ htup)
      obtain ⟨ai, ni, r0, r1, r2, eai, hai⟩ := hall qi (Nat.lt_trans hql.1 (Nat.lt_trans hql.2.1 hql.2.2))
      obtain ⟨aj, nj, r3, r4, r5, eaj, haj⟩ := hall qj (Nat.lt_trans hql.2.1 hql.2.2)
      obtain ⟨ak, nk, r6, r7, r8, eak, hak⟩ := hall qk (hql.2.2)
      have hai := hRX5 _ (hrR _ hai)
      have haj := hRX5 _ (hrR _ haj)
      have hak := hRX5 _ (hrR _ hak)
      have gi : (ls.map Value.ref)[((qi : Nat) : Int).toNat]? = some (.ref ai) := by simp [eai]
      have gj : (ls.map Value.ref)[((qj : Nat) : Int).toNat]? = some (.ref aj) := by simp [eaj]
      have gk : (ls.map Value.ref)[((qk : Nat) : Int).toNat]? = some (.ref ak) := by simp [eak]
      have p0 : (0 : Int) ≤ (qi : Nat) := Int.natCast_nonneg qi
      have p1 : (0 : Int) ≤ (qj : Nat) := Int.natCast_nonneg qj
      have p2 : (0 : Int) ≤ (qk : Nat) := Int.natCast_nonneg qk
      have hqi := Nat.lt_trans hql.1 (Nat.lt_trans hql.2.1 hql.2.2)
      have hqj := Nat.lt_trans hql.2.1 hql.2.2
      have f0 : ((qi : Nat) : Int) < 2 ^ 63 := lt_63 hqi hz
      have f1 : ((qj : Nat) : Int) < 2 ^ 63 := lt_63 hqj hz
      have f2 : ((qk : Nat) : Int) < 2 ^ 63 := lt_63 hql.2.2 hz
      have hlX5 := hRX5 _ (hrR _ hl1)
      have hyX5 := hRX5 _ hyR
      have hNX5 := hRX5 _ hNR
      have hLX5 := hRX5 _ hLR
      obtain ⟨bi0, bi1, bi2⟩ := hb qi (Nat.lt_trans hql.1 (Nat.lt_trans hql.2.1 hql.2.2))
      obtain ⟨bj0, bj1, bj2⟩ := hb qj (Nat.lt_trans hql.2.1 hql.2.2)
      obtain ⟨bk0, bk1, bk2⟩ := hb qk (hql.2.2)
      clear N5 hlX
      k_steps
      rename _ < _ ∧ _ < _ ∧ _ < _ ∧ AllLt _ X5 => lDw
      have lDw2 := lDw.2.1
      refine Halt.mk ?_
      k_steps
      refine Halt.mk ?_
      k_steps
      refine Halt.mk ?_
      rename News _ _ _ _ => N7
      obtain ⟨wl, N8, hwl3, hwt⟩ := wts_shape (lt := lt) hql.1 hql.2.1 hql.2.2 rfl rfl rfl N7
      clear N7
      have hyt : ∀ m, m < z → ∃ t, ys[((m : Nat) : Int).toNat]? = some (.int (numOf lt m) t) := fun m hm => by
        obtain ⟨t, e⟩ := ints_at hys (i := m) (by simp [hlen]; omega)
        rw [iAt_map (by simp [hlen]; omega)] at e
        exact ⟨t, e⟩
      have hsl := sel_lt hql.1 hql.2.1 hql.2.2
      k_steps
      refine SrcTup.of (by rfl) (by k_asm) (by k_asm) (List.mem_cons_self ..) (by size_fits) ?_
      intro g'
      refine comp_pure (fun j y => ∃ t, y = Value.int (wgtOf lt (qi, qj, qk) (sel qi qj qk j) * numOf lt (sel qi qj qk j)) t) (List.mem_cons_self ..) ?_ ?_
      · intro j v2 ys2 I2 oI2 C2 oC2 D2 m2 h tk E' hj hPv hC hx F N
        obtain ⟨tv, ev⟩ := sel_val hPv
        subst ev
        obtain ⟨v0, hw0⟩ := hwt _ (hsl j)
        obtain ⟨v1, hn0⟩ := hyt _ (hsl j)
        have hsj := hsl j
        generalize sel qi qj qk j = ij at *
        obtain ⟨bb0, bb1, bb2⟩ := hb ij hsj
        have hmf : Builtin.Int.intBits (numOf lt ij) ≤ 64 := bits_lt (k := 64) (by unfold numOf; omega) (by unfold numOf; omega)
        have hw0 : wl[((ij : Nat) : Int).toNat]? = _ := hw0
        have c0 : (0 : Int) ≤ (ij : Nat) := Int.natCast_nonneg ij
        have c1 : ((ij : Nat) : Int) < 2 ^ 63 := lt_63 hsj hz
        k_steps
        exact cend_int rfl (by k_asm) (by k_asm)
      intro yz hl3' hyz
      obtain ⟨w0, w1, w2, eyz⟩ := three_ints (fun j => wgtOf lt (qi, qj, qk) (sel qi qj qk j) * numOf lt (sel qi qj qk j)) hl3' hyz
      have eyz : yz = [.int (wgtOf lt (qi, qj, qk) qi * numOf lt qi) w0, .int (wgtOf lt (qi, qj, qk) qj * numOf lt qj) w1, .int (wgtOf lt (qi, qj, qk) qk * numOf lt qk) w2] := eyz
      subst eyz
      clear hyz
      k_steps
      refine SrcTup.of (by rfl) (by k_asm) (by k_asm) (List.mem_cons_self ..) (by size_fits) ?_
      intro g2
      refine comp_pure (fun j y => ∃ t, y = Value.int (wgtOf lt (qi, qj, qk) (sel qi qj qk j) * (lt (sel qi qj qk j)).2.2) t) (List.mem_cons_self ..) ?_ ?_
      · intro j v2 ys2 I2 oI2 C2 oC2 D2 m2 h tk E' hj hPv hC hx F N
        obtain ⟨tv, ev⟩ := sel_val hPv
        subst ev
        obtain ⟨v0, hw0⟩ := hwt _ (hsl j)
        have hsj := hsl j
        generalize sel qi qj qk j = ij at *
        obtain ⟨bb0, bb1, bb2⟩ := hb ij hsj
        have hmf : Builtin.Int.intBits (lt ij).2.2 ≤ 64 := bits_lt (k := 64) (by omega) (by omega)
        obtain ⟨am, nm, q0, q1, q2, eam, ham⟩ := hall ij hsj
        have ham := hRX5 _ (hrR _ ham)
        have gm : (ls.map Value.ref)[((ij : Nat) : Int).toNat]? = some (.ref am) := by simp [eam]
        have hw0 : wl[((ij : Nat) : Int).toNat]? = _ := hw0
        have c0 : (0 : Int) ≤ (ij : Nat) := Int.natCast_nonneg ij
        have c1 : ((ij : Nat) : Int) < 2 ^ 63 := lt_63 hsj hz
        k_steps
        exact cend_int rfl (by k_asm) (by k_asm)
      intro yz hl3' hyz
      obtain ⟨w3, w4, w5, eyz⟩ := three_ints (fun j => wgtOf lt (qi, qj, qk) (sel qi qj qk j) * (lt (sel qi qj qk j)).2.2) hl3' hyz
      have eyz : yz = [.int (wgtOf lt (qi, qj, qk) qi * (lt qi).2.2) w3, .int (wgtOf lt (qi, qj, qk) qj * (lt qj).2.2) w4, .int (wgtOf lt (qi, qj, qk) qk * (lt qk).2.2) w5] := eyz
      subst eyz
      clear hyz
      k_steps
      refine Halt.mk ?_
      rename News _ _ _ _ => N7
      have hI30 : I ≠ 30 := fun e => hoff (30, t30') (by simp) (by simp [e])
      have hI37 : I ≠ 37 := fun e => hoff (37, t37') (by simp) (by simp [e])
      have hKK : ∀ p ∈ own ++ (tl' ++ R), p ∈ X5 ∧ p.1 ≠ 30 ∧ p.1 ≠ 37 := fun p hp => by
        rw [hX5]
        rcases List.mem_append.mp hp with hp | hp
        · refine ⟨by simp [hp], ?_⟩
          rcases List.mem_cons.mp (hown p hp) with e | e
          · rw [e]; exact ⟨hI30, hI37⟩
          · rw [List.mem_singleton.mp e]; exact (hRne _ hDR).2.2
        · rcases List.mem_append.mp hp with hp | hp
          · exact ⟨by simp [hp], (hoffW p hp).2.2.1, (hoffW p hp).2.2.2.1⟩
          · exact ⟨by simp [hp], (hRne p hp).2.2⟩
      obtain ⟨me, mb⟩ := mix_law (lt := lt) hql.1 hql.2.1 ⟨bi0, bi1, bi2⟩ ⟨bj0, bj1, bj2⟩ ⟨bk0, bk1, bk2⟩
      have h30X : (30, t30') ∈ X5 := by rw [hX5]; simp
      have h37X : (37, t37') ∈ X5 := by rw [hX5]; simp
      refine idiv_call (by k_asm) (by k_asm) (by k_asm) N7 (by k_asm) (by first | exact rfl | assumption) (by ktr_room) (by ktr_units) (List.mem_cons_of_mem _ (List.mem_cons_of_mem _ (List.mem_cons_of_mem _ (List.mem_cons_of_mem _ (List.mem_cons_of_mem _ (List.mem_cons_of_mem _ (List.mem_cons_of_mem _ (List.mem_cons_of_mem _ (h30X))))))))) (List.mem_cons_of_mem _ (List.mem_cons_of_mem _ (List.mem_cons_of_mem _ (List.mem_cons_of_mem _ (List.mem_cons_of_mem _ (List.mem_cons_of_mem _ (List.mem_cons_of_mem _ (List.mem_cons_of_mem _ (h37X))))))))) hT3 (fun p hp => ⟨?_, (hKK p (List.mem_append_right _ hp)).2⟩) (by rw [me]; omega) (by rw [me]; omega) ?_
      · have := (hKK p (List.mem_append_right _ hp)).1
        simp [this]
      intro x u0 u1 tl2 t30'' t37'' h7 k7 F7 N8 ap8 hT8 hx8
      rw [me, Int.mul_ediv_cancel_left _ (by decide), Int.mul_emod_right] at hx8
      obtain ⟨oI9, hI9⟩ := hI
      have hIX : (I, oI9) ∈ X5 := by rw [hX5]; exact List.mem_append_left _ hI9
      have hI2 : ∀ p ∈ tl2, p.1 ≠ I := fun p hp => Ne.symm (ap8 (I, oI9) (List.mem_cons_of_mem _ (List.mem_cons_of_mem _ (mem_filt (List.mem_cons_of_mem _ (List.mem_cons_of_mem _ (List.mem_cons_of_mem _ (List.mem_cons_of_mem _ (List.mem_cons_of_mem _ (List.mem_cons_of_mem _ (List.mem_cons_of_mem _ (List.mem_cons_of_mem _ (hIX))))))))) hI30 hI37))) p hp)
      obtain ⟨Y, hY, N9, x9, y9, z9⟩ := div_shape (KK := own ++ (tl' ++ R)) N8 ap8 (List.mem_cons_of_mem _ (List.mem_cons_of_mem _ (List.mem_cons_of_mem _ (List.mem_cons_of_mem _ (List.mem_cons_self ..))))) (List.mem_cons_of_mem _ (List.mem_cons_of_mem _ (List.mem_cons_of_mem _ (List.mem_cons_of_mem _ (List.mem_cons_of_mem _ (List.mem_cons_of_mem _ (List.mem_cons_self ..))))))) (List.mem_cons_of_mem _ (List.mem_cons_of_mem _ (List.mem_cons_of_mem _ (List.mem_cons_of_mem _ (List.mem_cons_of_mem _ (List.mem_cons_of_mem _ (List.mem_cons_of_mem _ (List.mem_cons_self ..)))))))) (by omega) l2.1 lDw2 (fun p hp => ⟨List.mem_cons_of_mem _ (List.mem_cons_of_mem _ (List.mem_cons_of_mem _ (List.mem_cons_of_mem _ (List.mem_cons_of_mem _ (List.mem_cons_of_mem _ (List.mem_cons_of_mem _ (List.mem_cons_of_mem _ ((hKK p hp).1)))))))), (hKK p hp).2⟩) (fun p hp => x5 p (hKK p hp).1) (fun p hp => y5 p (hKK p hp).1)
      have hxY := (show ∀ {q : Addr × Obj}, q ∈ tl2 → q ∈ Y from fun h => by rw [hY]; exact List.mem_append_left _ h) hx8
      clear hx8
      clear N7 N8
      have hsz : ws.toArray.size ≤ sizeLine := by
        have := T0_small (z := z) hz
        simp [sizeLine]; omega
      have hszw : wl.toArray.size ≤ sizeLine := len_fits hwl3 hz
      k_steps
      refine Halt.mk ?_
      refine comp_pure (fun j y => ∃ t, y = Value.str (signOf (wgtOf lt (qi, qj, qk) j)) t) (src_led (by walk_at "my mem")) ?_ ?_
      · intro j v6 ys6 I6 oI6 C6 oC6 D6 m6 h tk E' hj hPv hC hx F N
        obtain ⟨tj, ej⟩ := hwt j (by simpa [hwl3] using hj)
        have hP' : wl[j]? = some v6 := by simpa using hPv
        have e' : v6 = Value.int (wgtOf lt (qi, qj, qk) j) tj := by rw [ej] at hP'; exact (Option.some.inj hP').symm
        subst e'
        k_steps
        refine Halt.mk ?_
        rename News _ _ _ _ => N11
        refine call_use (iseof_spec w _ _ _) (by k_asm) (by k_asm) (by k_asm) N11 (by k_asm) (by first | exact rfl | assumption) (by ktr_room) (by ktr_units) ?_
        rintro r12 tl12 h12 k12 F12 N12 o12 ⟨e12, e13⟩
        subst e12
        subst e13
        clear N11
        k_steps
        all_goals first
          | exact cend_str (sign_0 (by assumption)) (by k_asm) (by k_asm)
          | exact cend_str (sign_A (by assumption) (by assumption)) (by k_asm) (by k_asm)
          | exact cend_str (sign_a (by assumption) (by assumption)) (by k_asm) (by k_asm)
      · intro ysw hlw hyw
        have hst := strs_of (n := z) (g := fun j => signOf (wgtOf lt (qi, qj, qk) j)) (by simpa [hwl3] using hlw) hyw
        have h1 := sign_ones (wgtOf lt (qi, qj, qk)) z
        have h2 : ((List.range z).map fun j => signOf (wgtOf lt (qi, qj, qk) j)).length ≤ 100 := by rw [List.length_map, List.length_range]; exact z_100 hz
        have hjl := word_len (z := z) (wgtOf lt (qi, qj, qk)) (z_6 hz)
        have hwl2 : ∀ x : Value, (ws ++ [x]).length ≤ i + 1 := fun x => by simp; omega
        have hwa2 : ∀ x : Value, ws.toArray.push x = (ws ++ [x]).toArray := fun x => by simp
        k_steps
        all_goals (rename News _ _ _ _ => N13)
        all_goals (rename Fr _ _ _ _ => F13)
        all_goals (rename Obj.data _ = Data.cell _ => dW)
        · exact TEnd.of F13 N13 (turn_end (wsA := ws.toArray) (ws := ws) (n := n) (by walk_at "my frame") dW hq (words_skip hq hws (has_no (by assumption))) (by omega) rfl hT8 hoffW ap8 (mem_filt (List.mem_cons_of_mem _ (List.mem_cons_of_mem _ (List.mem_cons_of_mem _ (List.mem_cons_of_mem _ (List.mem_cons_of_mem _ (List.mem_cons_of_mem _ (List.mem_cons_self ..))))))) (gt_ne l2.2.2.2.1) (gt_ne l2.2.2.2.2.1)) (mem_filt (List.mem_cons_of_mem _ (List.mem_cons_of_mem _ (List.mem_cons_of_mem _ (List.mem_cons_of_mem _ (List.mem_cons_of_mem _ (List.mem_cons_of_mem _ (List.mem_cons_of_mem _ (List.mem_cons_self ..)))))))) (gt_ne (by omega)) (gt_ne (by omega))) (fun p hp => mem_filt (List.mem_cons_of_mem _ (List.mem_cons_of_mem _ (List.mem_cons_of_mem _ (List.mem_cons_of_mem _ (List.mem_cons_of_mem _ (List.mem_cons_of_mem _ (List.mem_cons_of_mem _ (List.mem_cons_of_mem _ (hRX5 p hp))))))))) (hRne p hp).2.2.1 (hRne p hp).2.2.2) hoff hI2 (fun p hp => by rw [← hY] at hp; repeat (first | exact hp | refine List.mem_cons_of_mem _ ?_)))
        · exact TEnd.of F13 N13 (turn_end (wsA := _) (ws := _) (n := (n + 1)) (by walk_at "my frame") dW hq (words_add hq hws (by first | exact has_yes (by assumption) | exact has_yes2 (by assumption))) (hwl2 _) (hwa2 _) hT8 hoffW ap8 (mem_filt (List.mem_cons_of_mem _ (List.mem_cons_of_mem _ (List.mem_cons_of_mem _ (List.mem_cons_of_mem _ (List.mem_cons_of_mem _ (List.mem_cons_of_mem _ (List.mem_cons_self ..))))))) (gt_ne l2.2.2.2.1) (gt_ne l2.2.2.2.2.1)) (mem_filt (List.mem_cons_of_mem _ (List.mem_cons_of_mem _ (List.mem_cons_of_mem _ (List.mem_cons_of_mem _ (List.mem_cons_of_mem _ (List.mem_cons_of_mem _ (List.mem_cons_of_mem _ (List.mem_cons_self ..)))))))) (gt_ne (by omega)) (gt_ne (by omega))) (fun p hp => mem_filt (List.mem_cons_of_mem _ (List.mem_cons_of_mem _ (List.mem_cons_of_mem _ (List.mem_cons_of_mem _ (List.mem_cons_of_mem _ (List.mem_cons_of_mem _ (List.mem_cons_of_mem _ (List.mem_cons_of_mem _ (hRX5 p hp))))))))) (hRne p hp).2.2.1 (hRne p hp).2.2.2) hoff hI2 (fun p hp => by rw [← hY] at hp; repeat (first | exact hp | refine List.mem_cons_of_mem _ ?_)))
    · rintro h' tk' m' news' F' N' ⟨hm₁, t30', t37', tl', ws, n, oW, vW, rfl, hoW, hoffW, hT3, hwl, hws⟩
      obtain ⟨u, rfl⟩ := hm₁.form
      k_steps
      rename News h₀ L _ _ => kN
      rename Fr h₀ L _ _ => kF
      rw [List.length_map, hl3, List.take_length] at hws
      have h37w : 37 < _ := l2.2.2.2.2.1
      exact hret _ [(_, _)] t30' t37' _ _ kF (news_sub kN (by intro p hp; simp at hp ⊢; grind)) (by
        intro q hq p hp
        rw [List.mem_singleton.mp hp]
        exact ne_cons (Nat.ne_of_lt (Nat.lt_trans (by decide) h37w)) (ne_cons (Nat.ne_of_lt h37w) fun p hp => (hRne p (hrR p hp)).1) q hq) ⟨_, ws, n, rfl, List.mem_cons_self .., hws, tabs_form hT3⟩
end

section
/-! the plain law: no lamp is told twice -/
def okWay (way : Nat → Int) (barred : Int) (z : Nat) (σ : Nat → Int) : Prop :=
  ∀ m, m < z → (way m = 0 → 0 ≤ σ m) ∧ (way m = 1 → σ m ≤ 0) ∧ (way m = barred → σ m = 0)
theorem prod_nonneg {way : Nat → Int} {z m : Nat} {σ τ : Nat → Int} (hs : okWay way 3 z σ) (ht : okWay way 2 z τ) (hm : m < z) (hw : 0 ≤ way m ∧ way m ≤ 3) : 0 ≤ σ m * τ m := by
  obtain ⟨a0, a1, a3⟩ := hs m hm
  obtain ⟨b0, b1, b2⟩ := ht m hm
  have h : way m = 0 ∨ way m = 1 ∨ way m = 2 ∨ way m = 3 := by (first | lia | omega)
  rcases h with h | h | h | h
  · exact Int.mul_nonneg (a0 h) (b0 h)
  · exact Int.mul_nonneg_of_nonpos_of_nonpos (a1 h) (b1 h)
  · rw [b2 h, Int.mul_zero]; exact Int.le_refl _
  · rw [a3 h, Int.zero_mul]; exact Int.le_refl _
theorem exclusive {way : Nat → Int} {z i j k e : Nat} {σ τ : Nat → Int} (hs : okWay way 3 z σ) (ht : okWay way 2 z τ) (hw : ∀ m, m < z → 0 ≤ way m ∧ way m ≤ 3) (hi : i < z) (hj : j < z) (hk : k < z)
    (h0 : ∀ m, m ≠ i → m ≠ j → m ≠ k → σ m = 0) (sum : σ i * τ i + σ j * τ j + σ k * τ k = 0) (he : e < z) (hse : σ e ≠ 0) (hte : τ e ≠ 0) : False := by
  have pi := prod_nonneg hs ht hi (hw i hi)
  have pj := prod_nonneg hs ht hj (hw j hj)
  have pk := prod_nonneg hs ht hk (hw k hk)
  have pe : σ e * τ e ≠ 0 := Int.mul_ne_zero hse hte
  by_cases h1 : e = i
  · subst h1; (first | lia | omega)
  · by_cases h2 : e = j
    · subst h2; (first | lia | omega)
    · by_cases h3 : e = k
      · subst h3; (first | lia | omega)
      · exact hse (h0 e h1 h2 h3)
theorem wgt_cross {lt : Lit} {i j k h : Nat} (hi : i < j) (hj : j < k) : wgtOf lt (i, j, k) i * crossOf lt h i + wgtOf lt (i, j, k) j * crossOf lt h j + wgtOf lt (i, j, k) k * crossOf lt h k = 0 := by
  have w1 : wgtOf lt (i, j, k) i = crossOf lt j k := by unfold wgtOf; rw [if_pos rfl]
  have w2 : wgtOf lt (i, j, k) j = crossOf lt k i := by unfold wgtOf; rw [if_neg (by dsimp only; (first | lia | omega)), if_pos rfl]
  have w3 : wgtOf lt (i, j, k) k = crossOf lt i j := by unfold wgtOf; rw [if_neg (by dsimp only; (first | lia | omega)), if_neg (by dsimp only; (first | lia | omega)), if_pos rfl]
  rw [w1, w2, w3]
  unfold crossOf
  grind
end

section
/-! sets of small ints: made of a list, gone through by sorted() -/
def tabS (led : Bool) (xs : List Nat) : SetTable := { mask := if xs.length < 5 then 7 else 31, place := xs.toArray, dummies := #[], finger := 0, led := led, moves := if xs.length < 5 then 0 else 1, plain := true }
def subs : List (List Nat) := (List.range 64).map fun m => (List.range 6).filter fun i => m.testBit i
def insP (x : Nat) (xs : List Nat) : Nat := (xs.takeWhile (· < x)).length
def insS (x : Nat) (xs : List Nat) : List Nat := xs.take (insP x xs) ++ x :: xs.drop (insP x xs)
def slotAt (xs : List Nat) (i : Nat) : Nat := if i = 0 then 0 else xs.getD (i - 1) 0 + 1
/-- the table with one more place, before it is laid anew -/
def tabP (led : Bool) (xs : List Nat) (x : Nat) : SetTable := { tabS led xs with place := (insS x xs).toArray }
def hashes (xs : List Nat) : Array Int := (xs.map Int.ofNat).toArray
def addOk (led : Bool) (xs : List Nat) (x : Nat) : Bool :=
  decide (insS x xs ∈ subs) && decide ((tabS led xs).freeSlot (x : Int) = some (x, false)) && decide ((tabS led xs).put x = (tabP led xs x, insP x xs)) && (tabP led xs x).fits (xs.length + 1) &&
  (if (tabP led xs x).tooFull then decide ((tabP led xs x).relaid (hashes (insS x xs)) (SetTable.grown (xs.length + 1)) = some (tabS led (insS x xs), Array.range (xs.length + 1))) && coversAll (Array.range (xs.length + 1)) (xs.length + 1) && (tabS led (insS x xs)).fits (xs.length + 1)
    else decide (tabP led xs x = tabS led (insS x xs)))
def subK (k : Nat) : List (List Nat) := (subs.drop (8 * k)).take 8
theorem add_ok0 : ∀ led : Bool, ∀ xs ∈ subK 0, ∀ x ∈ List.range 6, x ∈ xs ∨ addOk led xs x = true := by decide +kernel
theorem add_ok1 : ∀ led : Bool, ∀ xs ∈ subK 1, ∀ x ∈ List.range 6, x ∈ xs ∨ addOk led xs x = true := by decide +kernel
theorem add_ok2 : ∀ led : Bool, ∀ xs ∈ subK 2, ∀ x ∈ List.range 6, x ∈ xs ∨ addOk led xs x = true := by decide +kernel
theorem add_ok3 : ∀ led : Bool, ∀ xs ∈ subK 3, ∀ x ∈ List.range 6, x ∈ xs ∨ addOk led xs x = true := by decide +kernel
theorem add_ok4 : ∀ led : Bool, ∀ xs ∈ subK 4, ∀ x ∈ List.range 6, x ∈ xs ∨ addOk led xs x = true := by decide +kernel
theorem add_ok5 : ∀ led : Bool, ∀ xs ∈ subK 5, ∀ x ∈ List.range 6, x ∈ xs ∨ addOk led xs x = true := by decide +kernel
theorem add_ok6 : ∀ led : Bool, ∀ xs ∈ subK 6, ∀ x ∈ List.range 6, x ∈ xs ∨ addOk led xs x = true := by decide +kernel
theorem add_ok7 : ∀ led : Bool, ∀ xs ∈ subK 7, ∀ x ∈ List.range 6, x ∈ xs ∨ addOk led xs x = true := by decide +kernel
theorem subs_split : ∀ xs ∈ subs, xs ∈ subK 0 ∨ xs ∈ subK 1 ∨ xs ∈ subK 2 ∨ xs ∈ subK 3 ∨ xs ∈ subK 4 ∨ xs ∈ subK 5 ∨ xs ∈ subK 6 ∨ xs ∈ subK 7 := by decide +kernel
theorem add_ok : ∀ led : Bool, ∀ xs ∈ subs, ∀ x ∈ List.range 6, x ∈ xs ∨ addOk led xs x = true := fun led xs hx => by
  rcases subs_split xs hx with h | h | h | h | h | h | h | h
  · exact add_ok0 led xs h
  · exact add_ok1 led xs h
  · exact add_ok2 led xs h
  · exact add_ok3 led xs h
  · exact add_ok4 led xs h
  · exact add_ok5 led xs h
  · exact add_ok6 led xs h
  · exact add_ok7 led xs h
theorem walk_ok : ∀ xs ∈ subs, ∀ i ∈ List.range 7, i ≤ xs.length → SetTable.below xs.toArray (slotAt xs i) = i := by decide +kernel
theorem fits_ok : ∀ led : Bool, ∀ xs ∈ subs, (tabS led xs).fits xs.length = true ∧ xs.length ≤ 6 ∧ xs.Nodup := by decide +kernel
theorem hash_ok : ∀ x ∈ List.range 6, hashInt (x : Int) = x := by decide +kernel

/-- the elements: small ints in rising order, each with its own number as hash -/
def ElS (xs : List Nat) (es : Array (Int × Value)) : Prop := es.toList.map (·.1) = xs.map Int.ofNat ∧ ∀ e ∈ es.toList, ∃ t, e.2 = Value.int e.1 t
theorem ElS.len {xs : List Nat} {es : Array (Int × Value)} (h : ElS xs es) : es.size = xs.length := by
  have := congrArg List.length h.1
  simpa using this
theorem ElS.has {xs : List Nat} {es : Array (Int × Value)} (h : ElS xs es) {e : Int × Value} (he : e ∈ es.toList) : ∃ x ∈ xs, ∃ t, e = ((x : Int), .int (x : Int) t) := by
  obtain ⟨t, et⟩ := h.2 e he
  have : e.1 ∈ xs.map Int.ofNat := h.1 ▸ List.mem_map.mpr ⟨e, he, rfl⟩
  obtain ⟨x, hx, ex⟩ := List.mem_map.mp this
  exact ⟨x, hx, t, by obtain ⟨a, b⟩ := e; dsimp only at et ex; subst et; rw [← ex]; rfl⟩
theorem ElS.of {xs : List Nat} {es : Array (Int × Value)} (h : ElS xs es) {x : Nat} (hx : x ∈ xs) : ∃ e ∈ es.toList, e.1 = (x : Int) := by
  have : (x : Int) ∈ es.toList.map (·.1) := h.1 ▸ List.mem_map.mpr ⟨x, hx, rfl⟩
  obtain ⟨e, he, ee⟩ := List.mem_map.mp this
  exact ⟨e, he, ee⟩
theorem subs_lt {xs : List Nat} (h : xs ∈ subs) : ∀ x ∈ xs, x < 6 := by
  obtain ⟨m, _, rfl⟩ := List.mem_map.mp h
  intro x hx
  exact List.mem_range.mp (List.mem_filter.mp hx).1
theorem ElS.elems {prog : Program} {w : World} {xs : List Nat} {es : Array (Int × Value)} (h : ElS xs es) (hs : xs ∈ subs) : ElemsOf (intKind prog w) es.toList := fun e he => by
  obtain ⟨x, hx, t, rfl⟩ := h.has he
  exact ⟨⟨(x : Int), intKind_is _ _ _ _, (hash_ok x (List.mem_range.mpr (subs_lt hs x hx))).symm⟩, rfl⟩
theorem ElS.ins {xs : List Nat} {es : Array (Int × Value)} (h : ElS xs es) (x : Nat) (t : Tok) : ElS (insS x xs) (SetTable.insertAt es (insP x xs) ((x : Int), .int (x : Int) t)) := by
  constructor
  · rw [SetTable.toList_insertAt, List.map_append, List.map_cons, List.map_take, List.map_drop, h.1, insS, List.map_append, List.map_cons, List.map_take, List.map_drop]
    rfl
  · intro e he
    rw [SetTable.toList_insertAt] at he
    rcases List.mem_append.mp he with he | he
    · exact h.2 e (List.mem_of_mem_take he)
    · rcases List.mem_cons.mp he with rfl | he
      · exact ⟨t, rfl⟩
      · exact h.2 e (List.mem_of_mem_drop he)
theorem mem_insS {x y : Nat} {xs : List Nat} : y ∈ insS x xs ↔ y = x ∨ y ∈ xs := by
  unfold insS
  have e : xs = xs.take (insP x xs) ++ xs.drop (insP x xs) := (List.take_append_drop _ xs).symm
  rw [List.mem_append, List.mem_cons]
  conv => rhs; rw [e, List.mem_append]
  constructor
  · rintro (h | h | h)
    · exact .inr (.inl h)
    · exact .inl h
    · exact .inr (.inr h)
  · rintro (h | h | h)
    · exact .inr (.inl h)
    · exact .inl h
    · exact .inr (.inr h)
theorem insP_le (x : Nat) (xs : List Nat) : insP x xs ≤ xs.length := by
  unfold insP
  exact (List.takeWhile_sublist _).length_le
theorem len_insS (x : Nat) (xs : List Nat) : (insS x xs).length = xs.length + 1 := by
  have := insP_le x xs
  unfold insS
  simp; omega
def setObj (es : Array (Int × Value)) (ep : Nat) (t : SetTable) : Obj := { cls := .type "set", dict := none, data := .set es ep t }
def SetIs (h : Heap) (a : Addr) (led : Bool) (xs : List Nat) : Prop := ∃ es ep, h.get? a = some (setObj es ep (tabS led xs)) ∧ ElS xs es ∧ xs ∈ subs
section
variable {prog : Program} {w : World} {A : Around} {E : Value → Shared → Prop} {s : Shared} {a : Addr}
theorem set_rel (t : SetTable) (es : Array (Int × Value)) {n : Nat} {t' : SetTable} {wanted : Nat} (hn : es.size = n) (h : t.relaid (es.map (·.1)) wanted = some (t', Array.range n)) (hc : coversAll (Array.range n) n = true) (hf : t'.fits n = true) :
    relayAll t es wanted = (es, t', false) := by
  unfold relayAll
  rw [h]
  dsimp only
  have e : (Array.range n).filterMap (fun i => es[i]?) = es := by
    apply Array.toList_inj.mp
    rw [Array.toList_filterMap, Array.toList_range, ← hn]
    exact filterMap_getElem?_range es
  rw [e, hn, hc, hf]
  rfl
theorem add_small {led : Bool} {xs : List Nat} {x : Nat} {t : Tok} {Q : Bool → Shared → Prop} (hS : SetIs s.heap a led xs) (hx : x < 6)
    (h : ∀ h' b xs', Heap.SameBut a s.heap h' → SetIs h' a led xs' → (∀ y, y ∈ xs' ↔ y = x ∨ y ∈ xs) → Q b { s with heap := h' }) :
    wpAny (model prog w) A (setAddHashed a (.int (x : Int) t) (hashInt (x : Int))) Q E s := by
  obtain ⟨es, ep, ho, hel, hs⟩ := hS
  obtain ⟨hft, hl6, _⟩ := fits_ok led xs hs
  have hlen := hel.len
  have hfe : (tabS led xs).fits es.size = true := by rw [hlen]; exact hft
  have hE : ElemsOf (intKind prog w) es.toList := hel.elems hs
  unfold setAddHashed setAddHashedIn
  refine wpAny_holding (wpAny_bind (wpAny_setState_of ho rfl hfe ?_))
  dsimp only
  rw [byScan_of (knd := intKind prog w) rfl (by unfold scanBound; omega) hE]
  simp only [↓reduceIte]
  unfold setAddByScan
  refine wpAny_bind ?_
  refine wpAny_bind (wpAny_rule ?_)
  refine wpAny_bind (wpAny_setScan_of (knd := intKind prog w) (intKind_is _ _ _ _) ho rfl hfe hE ?_)
  cases hr : List.findIdx? (fun e => (intKind prog w).is (x : Int) e.2) es.toList with
  | some j =>
    dsimp only
    obtain ⟨hj, hpj, _⟩ := List.findIdx?_eq_some_iff_getElem.mp hr
    obtain ⟨y, hy, ty, ey⟩ := hel.has (List.getElem_mem hj)
    rw [ey] at hpj
    have hxy : x = y := by
      have := (intKind prog w).inj _ _ _ hpj (intKind_is _ _ _ _)
      omega
    subst hxy
    refine wpAny_pure (wpAny_pure ?_)
    have e : s = { s with heap := s.heap } := by cases s; rfl
    rw [e]
    exact h s.heap _ xs (Heap.SameBut.refl a s.heap) ⟨es, ep, ho, hel, hs⟩ (fun z => ⟨.inr, fun hz => hz.elim (fun e => e ▸ hy) id⟩)
  | none =>
    dsimp only
    have hnx : x ∉ xs := fun hx' => by
      obtain ⟨e, he, ee⟩ := hel.of hx'
      obtain ⟨te, hte⟩ := hel.2 e he
      have := List.findIdx?_eq_none_iff.mp hr e he
      rw [hte, ee, intKind_is] at this
      exact Bool.noConfusion this
    have hok := (add_ok led xs hs x (List.mem_range.mpr hx)).resolve_left hnx
    unfold addOk at hok
    simp only [Bool.and_eq_true, decide_eq_true_eq] at hok
    obtain ⟨⟨⟨⟨k1, k2⟩, k3⟩, k4⟩, k5⟩ := hok
    have hh : hashInt (x : Int) = (x : Int) := hash_ok x (List.mem_range.mpr hx)
    have hsz : (SetTable.insertAt es (insP x xs) ((x : Int), Value.int (x : Int) t)).size = xs.length + 1 := by
      rw [(hel.ins x t).len, len_insS]
    have hL : layNew (tabS led xs) es (hashInt (x : Int)) (.int (x : Int) t) = (SetTable.insertAt es (insP x xs) ((x : Int), .int (x : Int) t), tabP led xs x, false, false) := by
      unfold layNew
      show (match (tabS led xs).freeSlot (hashInt (x : Int)) with | some (slot, wasDummy) => _ | none => _) = _
      rw [hh, k2]
      dsimp only
      rw [k3]
      dsimp only
      unfold SetTable.orStandIn
      rw [hsz, k4]
      rfl
    show wpAny _ _ (let __discr := layNew (tabS led xs) es (hashInt (x : Int)) (.int (x : Int) t); _) _ _ _
    rw [hL]
    dsimp only
    refine wpAny_bind (wpAny_pure ?_)
    rw [if_pos (show (tabP led xs x).plain = true from rfl), hashByValue_scannable 8 rfl]
    refine wpAny_bind (wpAny_pure ?_)
    show wpAny _ _ (storeSet a (SetTable.insertAt es (insP x xs) ((x : Int), .int (x : Int) t)) (tabP led xs x) >>= _) _ _ _
    have hel1 := hel.ins x t
    have hz1 : (SetTable.insertAt es (insP x xs) ((x : Int), Value.int (x : Int) t)).size ≤ sizeLine := by rw [hsz, sizeLine_eq]; omega
    refine wpAny_bind (wpAny_storeSet_of ho rfl ?_ hz1)
    have ho1 := (SetOf_store (knd := intKind prog w) (S' := fun k => decide (∃ e ∈ (SetTable.insertAt es (insP x xs) ((x : Int), Value.int (x : Int) t)).toList, (intKind prog w).is k e.2 = true)) ho ⟨rfl, rfl, rfl⟩ rfl (es' := SetTable.insertAt es (insP x xs) ((x : Int), .int (x : Int) t)) (t' := tabP led xs x) (hel1.elems k1) (fun k => by simp) (by rw [hsz]; unfold scanBound; omega) (by rw [hsz]; exact k4)).1
    have hsb1 := Heap.SameBut.update s.heap a (Obj.putSet (SetTable.insertAt es (insP x xs) ((x : Int), .int (x : Int) t)) (tabP led xs x))
    have hmem : ∀ y, y ∈ insS x xs ↔ y = x ∨ y ∈ xs := fun y => mem_insS
    show wpAny _ _ (if (!false && (tabP led xs x).tooFull) = true then _ else _) _ _ _
    cases htf : (tabP led xs x).tooFull with
    | false =>
      rw [if_neg (by simp)]
      rw [htf, if_neg Bool.false_ne_true] at k5
      have k5 := of_decide_eq_true k5
      refine wpAny_pure (wpAny_pure ?_)
      rw [k5] at ho1 hsb1 ⊢
      exact h _ _ (insS x xs) hsb1 ⟨_, _, ho1, hel1, k1⟩ hmem
    | true =>
      rw [if_pos (by simp)]
      rw [htf, if_pos rfl] at k5
      simp only [Bool.and_eq_true, decide_eq_true_eq] at k5
      obtain ⟨⟨k5, k6⟩, k7⟩ := k5
      have hmp : (SetTable.insertAt es (insP x xs) ((x : Int), Value.int (x : Int) t)).map (·.1) = hashes (insS x xs) := by
        apply Array.toList_inj.mp
        rw [Array.toList_map, hel1.1]; simp [hashes]
      have hrl := set_rel (tabP led xs x) _ hsz (by rw [hmp]; exact k5) k6 k7
      rw [if_pos (show plainKind (Value.int (x : Int) t) = true from rfl), hsz, hrl]
      refine wpAny_bind (wpAny_pure ?_)
      refine wpAny_bind (wpAny_storeSet_of ho1 rfl ?_ hz1)
      have ho2 := (SetOf_store (knd := intKind prog w) (S' := fun k => decide (∃ e ∈ (SetTable.insertAt es (insP x xs) ((x : Int), Value.int (x : Int) t)).toList, (intKind prog w).is k e.2 = true)) ho1 ⟨rfl, rfl, rfl⟩ rfl (es' := SetTable.insertAt es (insP x xs) ((x : Int), .int (x : Int) t)) (t' := tabS led (insS x xs)) (hel1.elems k1) (fun k => by simp) (by rw [hsz]; unfold scanBound; omega) (by rw [hsz]; exact k7)).1
      refine wpAny_pure (wpAny_pure ?_)
      exact h _ _ (insS x xs) (hsb1.trans (Heap.SameBut.update _ a _)) ⟨_, _, ho2, hel1, k1⟩ hmem
theorem SetIs.at {h h' : Heap} {led : Bool} {xs : List Nat} (S : SetIs h a led xs) (e : ∀ o, h.get? a = some o → h'.get? a = some o) : SetIs h' a led xs :=
  let ⟨es, ep, ho, r⟩ := S; ⟨es, ep, e _ ho, r⟩
end
section
variable {prog : Program} {w : World} {A : Around} {R : Result → Shared → Prop} {I : Addr} {fp wr : List Addr} {G : Array GenState → Array GenState → Prop} {n : Nat} {P : Nat → Value → Prop} {St : Nat → Shared → Prop}
theorem update_small {led : Bool} (W : WalksS prog w A.in1 I fp wr G n P St) (S : Addr) (hSf : S ∉ fp) (val : Nat → Nat) (hval : ∀ i v, P i v → val i < 6 ∧ ∃ t, v = .int (val i : Int) t) :
    ∀ (k i : Nat) (s : Shared) (xs : List Nat), n - i = k → i ≤ n → St i s → SetIs s.heap S led xs → (∀ y, y ∈ xs ↔ ∃ j, j < i ∧ val j = y) →
      (∀ s' xs', Moved (S :: wr) G s s' → SetIs s'.heap S led xs' → (∀ y, y ∈ xs' ↔ ∃ j, j < n ∧ val j = y) → R (.ok (.ret .none)) s') →
      codeAny (model prog w) A (.builtin "set.update.loop" ⟨[.ref S, .ref I], []⟩) R s := by
  have hSw : S ∉ wr := fun h => hSf (W.sub _ h)
  have hsub : ∀ b ∈ wr, b ∈ S :: wr := fun b hb => List.mem_cons_of_mem _ hb
  intro k
  induction k with
  | zero =>
    intro i s xs hk hi hst hS hx hR
    have hin : i = n := by omega
    subst hin
    refine codeAny_builtin F.entry_set_update_loop ?_
    rw [Around.under_plainId F.plain_set_update_loop _]
    show wpAny _ A.in1 (pyNext (.ref I) >>= _) _ _ s
    refine wpAny_bind (W.done s _ _ hst fun s' hm => ?_)
    exact wpAny_pure (hR s' xs (hm.mono hsub) (hS.at fun o e => hm.heap S _ hSw e) hx)
  | succ k ih =>
    intro i s xs hk hi hst hS hx hR
    have hlt : i < n := by omega
    refine codeAny_builtin F.entry_set_update_loop ?_
    rw [Around.under_plainId F.plain_set_update_loop _]
    show wpAny _ A.in1 (pyNext (.ref I) >>= _) _ _ s
    refine wpAny_bind (W.item i s _ _ hlt hst fun v s' hP hst' hm => ?_)
    obtain ⟨hv6, t, rfl⟩ := hval i v hP
    have hS' := hS.at (h' := s'.heap) fun o e => hm.heap S _ hSw e
    show wpAny _ A.in1 (holding [Value.int (val i : Int) t] (setAdd S (.int (val i : Int) t)) >>= _) _ _ s'
    refine wpAny_bind (wpAny_holding ?_)
    unfold setAdd
    refine wpAny_holding (wpAny_bind ((intKind prog w).pyHash (k := (val i : Int)) (intKind_is _ _ _ _) ?_))
    refine add_small (s := { s' with toks := s'.toks + 1 }) hS' hv6 fun h' b xs' hsb hS2 hx2 => ?_
    refine wpAny_pure ⟨plainId_quiet F.plain_set_update_loop _, ih (i + 1) _ xs' (by omega) hlt (W.frame _ s' _ _ hst' (Nat.le_succ _) fun b hb o e => ?_) hS2 (fun y => ?_) fun s'' xs'' hm'' hS'' hx'' => ?_⟩
    · rw [hsb.2 b (fun h : b = S => hSf (by rw [← h]; exact hb))]; exact e
    · rw [hx2, hx]
      constructor
      · rintro (rfl | ⟨j, hj, e⟩)
        · exact ⟨i, by omega, rfl⟩
        · exact ⟨j, by omega, e⟩
      · rintro ⟨j, hj, e⟩
        by_cases h : j = i
        · subst h; exact .inl e.symm
        · exact .inr ⟨j, by omega, e⟩
    · refine hR s'' xs'' (Moved.trans W.gtrans ((hm.mono hsub).then_heap (Nat.le_succ _) fun b o hb e => ?_) hm'') hS'' hx''
      rw [hsb.2 b (fun h : b = S => hb (by rw [h]; exact List.mem_cons_self))]; exact e
end
section
variable {prog : Program} {w : World} {A : Around} {E : Value → Shared → Prop} {s : Shared}
def ledOf (w : World) : Bool := !(w.params.followText "set-order")
def freshSet (led : Bool) : Obj := { cls := .type "set", dict := none, data := .set #[] 0 (.fresh 0 0 led) }
theorem new_small (a : Value) {Q₁ : Value → Shared → Prop} (h : Q₁ (.ref s.heap.objs.size) { s with heap := s.heap.push (freshSet (ledOf w)) }) :
    codeAny (model prog w) A (.call (.builtin "set.__new__") ⟨[.type "set", a], []⟩) (wants Q₁ E) s := by
  refine codeAny_of_tree ?_
  show wpAny _ A.in1 (do checkBuiltinCall "set.__new__" ⟨[.type "set", a], []⟩; again (.builtin "set.__new__" ⟨[.type "set", a], []⟩)) _ _ s
  refine wpAny_bind (wpAny_of_eq (F.newCall_set_1 a) (wpAny_pure ⟨plainId_quiet F.plain_set_new _, codeAny_builtin F.entry_set_new ?_⟩))
  rw [Around.under_plainId F.plain_set_new _]
  unfold Builtin.«set.__new__» Builtin.Frozenset.newClass
  have hsub := sub_set_self
  obtain ⟨hp, g, d, tk, os⟩ := s
  dsimp only
  wp_walk
  refine wpAny_askSetting (wpAny_pure ?_)
  dsimp only
  simp only [newObj]
  refine wpAny_bind (wpAny_alloc (wpAny_pure ?_))
  exact wpAny_pure h
set_option maxRecDepth 100000 in
set_option maxHeartbeats 8000000 in
theorem set_of_list {l : Addr} {items : Array Value} {ns : List Nat} {Q : Value → Shared → Prop}
    (hh : A.handled = none) (hl : s.heap.IsList l items) (hi : ∀ i v, items[i]? = some v → ns.getD i 0 < 6 ∧ ∃ t, v = .int (ns.getD i 0 : Int) t)
    (h : ∀ (h' : Heap) (tk : Nat) xs, SetIs h' s.heap.objs.size (ledOf w) xs → (∀ y, y ∈ xs ↔ ∃ j, j < items.size ∧ ns.getD j 0 = y) →
      (∀ b o, s.heap.get? b = some o → h'.get? b = some o) → Q (.ref s.heap.objs.size) { s with heap := h', toks := tk }) :
    wpAny (model prog w) A (call (.type "set") [.ref l]) Q E s := by
  obtain ⟨c, tl, hmro⟩ := F.called_set.mro
  have hmade := F.called_set.made
  have hsub := F.called_set.sub
  refine wpAny_call (codeAny_of_tree ?_)
  show wpAny _ _ (callAny (.type "set") _) _ _ _
  refine wpAny_pure ⟨Code.quiet_builtin _ (by decide +kernel), codeAny_builtin F.entry_type_call ?_⟩
  rw [Around.under_plain (weight_type_call_type "set" [.ref l] []) rfl]
  have h1 := F.called_set.notType
  have h2 := F.called_set.canCreate
  have hct := F.typeCall_set_1 (.ref l)
  repeat (any_goals (first | assumption | wp_step))
  refine codeAny_mono (new_small (.ref l) (E := E) (Q₁ := fun obj s₁ => obj = .ref s.heap.objs.size ∧ s₁ = { s with heap := s.heap.push (freshSet (ledOf w)) }) ⟨rfl, rfl⟩) fun r s₁ hr => ?_
  cases r with
  | error e => exact hr
  | ok fl =>
    cases fl with
    | ret obj =>
      obtain ⟨rfl, rfl⟩ := hr
      have hS : (s.heap.push (freshSet (ledOf w))).get? s.heap.objs.size = some (freshSet (ledOf w)) := Heap.get?_push_size _ rfl
      have hT : Shared.TypeIs { s with heap := s.heap.push (freshSet (ledOf w)) } (.ref s.heap.objs.size) "set" := ⟨_, hS, rfl⟩
      have hli := F.called_set.init.lookup
      have hbi := F.called_set.init.bind (.ref s.heap.objs.size)
      repeat (any_goals (first | assumption | wp_step))
      refine codeAny_mono (codeAny_call_builtin (R := wants (fun r s₂ => r = .none ∧ ∃ h' tk xs, s₂ = { s with heap := h', toks := tk } ∧
          SetIs h' s.heap.objs.size (ledOf w) xs ∧ (∀ y, y ∈ xs ↔ ∃ j, j < items.size ∧ ns.getD j 0 = y) ∧
          (∀ b o, s.heap.get? b = some o → h'.get? b = some o)) E) F.called_set.init.plain F.entry_set_init (check_set_init_1 hT ?_)) fun r₂ s₂ hr₂ => ?_
      · obtain ⟨ol, hol, hcl, nl, hdl⟩ := hl
        obtain ⟨ocls, odict, odata, oslots⟩ := ol
        simp only at hcl hdl
        subst hcl; subst hdl
        have hol' : (s.heap.push (freshSet (ledOf w))).get? l = some { cls := .type "list", dict := odict, data := .seq items nl, slots := oslots } := Heap.get?_push_of_some _ hol
        have hsls := F.sub_list_set
        have hslf := F.sub_list_frozenset
        have hne : (Value.type "list" == Value.type "dict") = false := by decide
        have hl1 : (s.heap.push (freshSet (ledOf w))).IsList l items := ⟨_, hol', rfl, nl, rfl⟩
        unfold Builtin.«set.__init__» noKeywords Builtin.Frozenset.updateFrom
        generalize hPI : pyIter = PI
        wp_walk
        subst hPI
        refine wpAny_pyIter_list hl1 ?_
        refine wpAny_bind (wpAny_runValue ?_)
        have hlS : l < s.heap.objs.size := Heap.lt_size hol
        have hh3 : A.in1.in1.in1.handled = none := by simp [hh]
        have hneI : l ≠ (s.heap.push (freshSet (ledOf w))).objs.size := by
          rw [Heap.size_push]; exact Nat.ne_of_lt (Nat.lt_succ_of_lt hlS)
        have hSf : s.heap.objs.size ∉ [(s.heap.push (freshSet (ledOf w))).objs.size, l] := by
          rw [Heap.size_push]; simp only [List.mem_cons, List.mem_singleton, List.not_mem_nil, or_false, not_or]
          exact ⟨Nat.ne_of_lt (Nat.lt_succ_self _), Nat.ne_of_gt hlS⟩
        refine update_small (led := ledOf w) ((Walks.list hh3 _ l hneI items).toS) s.heap.objs.size hSf (fun i => ns.getD i 0) hi (items.size - 0) 0 _ [] (by omega) (Nat.zero_le _)
          ⟨⟨_, Heap.get?_push_size _ rfl, rfl, rfl⟩, (hl1.push _)⟩ ?hS0 (fun y => ?hx0) ?hR
        case hS0 => exact ⟨#[], 0, Heap.get?_push_of_some _ hS, ⟨rfl, fun e he => by simp at he⟩, by decide +kernel⟩
        case hx0 => exact ⟨fun h => (nomatch h), fun ⟨j, hj, _⟩ => absurd hj (Nat.not_lt_zero _)⟩
        case hR =>
          intro s' xs' hm hS' hx'
          obtain ⟨h', g', d', tk', os'⟩ := s'
          have eg : g' = s.gens := hm.gens
          have ed : d' = s.drawn := hm.drawn
          have eo : os' = s.os := hm.os
          subst eg; subst ed; subst eo
          show wpAny _ _ _ _ _ _
          refine wpAny_pure ?_
          show wpAny _ _ (ret Value.none) _ _ _
          refine wpAny_pure ⟨rfl, h', tk', xs', rfl, hS', hx', fun b o e => ?_⟩
          have hb := Heap.lt_size e
          have hb1 : b ≠ s.heap.objs.size := Nat.ne_of_lt hb
          have hb2 : b ≠ (s.heap.push (freshSet (ledOf w))).objs.size := by
            rw [Heap.size_push]; exact Nat.ne_of_lt (Nat.lt_succ_of_lt hb)
          exact hm.heap b o (by simp only [List.mem_cons, List.mem_singleton, List.not_mem_nil, or_false, not_or]; exact ⟨hb1, hb2⟩) (Heap.get?_push_of_some _ (Heap.get?_push_of_some _ e))
      · cases r₂ with
        | error e => exact hr₂
        | ok fl₂ =>
          cases fl₂ with
          | ret r =>
            obtain ⟨rfl, h', tk, xs, rfl, hS', hx', hk'⟩ := hr₂
            repeat (any_goals (first | assumption | wp_step))
            exact h _ _ _ hS' hx' hk'
          | _ => exact hr₂.elim
    | _ => exact hr.elim
end
end

section
/-! sorted() over a set of small ints -/
theorem slot_sit_next : Slot "set_iterator" "__next__" "set_iterator.__next__" :=
  .of (owner := "set_iterator") (n := "__next__") (by rw [typeLookup_type, builtinLookup_eq_fast]; kernel_rfl) (by decide +kernel) (by decide +kernel) (by decide +kernel)
    (by first | exact .inl (by decide +kernel) | exact .inr (by decide +kernel)) (by rw [isSubtype_type]; kernel_rfl)
theorem slot_sit_iter : Slot "set_iterator" "__iter__" "set_iterator.__iter__" :=
  .of (owner := "set_iterator") (n := "__iter__") (by rw [typeLookup_type, builtinLookup_eq_fast]; kernel_rfl) (by decide +kernel) (by decide +kernel) (by decide +kernel)
    (by first | exact .inl (by decide +kernel) | exact .inr (by decide +kernel)) (by rw [isSubtype_type]; kernel_rfl)
theorem entry_sit_next : entryFor table "set_iterator.__next__" = some Builtin.«set_iterator.__next__» := entryFor_of_tree (by kernel_rfl)
theorem entry_sit_iter : entryFor table "set_iterator.__iter__" = some Builtin.«dict_keyiterator.__iter__» := entryFor_alias (id' := "dict_keyiterator.__iter__") (by kernel_rfl) rfl (by decide +kernel) (by kernel_rfl)
theorem entry_set_iter : entryFor table "set.__iter__" = some Builtin.«frozenset.__iter__» := entryFor_alias (id' := "frozenset.__iter__") (by kernel_rfl) rfl (by decide +kernel) (by kernel_rfl)
theorem args_sit_next (a : Value) : argsOk "set_iterator.__next__" ⟨[a], []⟩ := by unfold argsOk; kernel_rfl
theorem args_sit_iter (a : Value) : argsOk "set_iterator.__iter__" ⟨[a], []⟩ := by unfold argsOk; kernel_rfl
theorem pick_perm {α : Type} (next : Nat → Nat) : ∀ (n k : Nat) (xs : List α) (out : Array α), xs.length = n → List.Perm (pickOrder.go next n k xs out).toList (out.toList ++ xs)
  | 0, k, xs, out, h => by
    have : xs = [] := List.eq_nil_of_length_eq_zero h
    subst this
    simp [pickOrder.go]
  | n + 1, k, xs, out, h => by
    unfold pickOrder.go
    have hlt : next k % xs.length < xs.length := Nat.mod_lt _ (by omega)
    rw [List.getElem?_eq_getElem hlt]
    dsimp only
    refine (pick_perm next n (k + 1) _ _ (by rw [List.length_eraseIdx, if_pos hlt]; omega)).trans ?_
    rw [Array.toList_push, List.append_assoc]
    refine List.Perm.append_left _ ?_
    have e1 : xs.eraseIdx (next k % xs.length) = xs.take (next k % xs.length) ++ xs.drop (next k % xs.length + 1) := List.eraseIdx_eq_take_drop_succ ..
    have e2 : xs = xs.take (next k % xs.length) ++ xs[next k % xs.length] :: xs.drop (next k % xs.length + 1) := by
      rw [List.getElem_cons_drop hlt, List.take_append_drop]
    rw [e1]
    conv => rhs; rw [e2]
    rw [List.singleton_append]
    exact List.perm_middle.symm
/-- the order in which the elements come -/
def ordOf (w : World) (a : Addr) (ep : Nat) (es : Array (Int × Value)) : Array (Int × Value) := if w.params.followText "set-order" = true then pickOrder (w.params.setOrder a ep) es else es
theorem ord_perm (w : World) (a : Addr) (ep : Nat) (es : Array (Int × Value)) : List.Perm (ordOf w a ep es).toList es.toList := by
  unfold ordOf
  split
  · simpa [pickOrder] using pick_perm (w.params.setOrder a ep) es.size 0 es.toList #[] (by simp)
  · exact .rfl
theorem ord_size (w : World) (a : Addr) (ep : Nat) (es : Array (Int × Value)) : (ordOf w a ep es).size = es.size := by
  have := (ord_perm w a ep es).length_eq
  simpa using this
def firstAt (w : World) (xs : List Nat) (i : Nat) : Nat := if w.params.followText "set-order" = true then 0 else slotAt xs i
def SitAt (w : World) (h : Heap) (it S : Addr) (xs : List Nat) (i n ep : Nat) : Prop :=
  ∃ o, h.get? it = some o ∧ o.cls = .type "set_iterator" ∧ o.data = .fields #[.int (firstAt w xs i) 0, .int i 0, .ref S, .int n 0, .int ep 0]
def SetAt (w : World) (h : Heap) (a : Addr) (xs : List Nat) (es : Array (Int × Value)) (ep : Nat) : Prop := h.get? a = some (setObj es ep (tabS (ledOf w) xs))
section
variable {prog : Program} {w : World} {A : Around} {E : Value → Shared → Prop} {s : Shared} {S it : Addr} {xs : List Nat} {es : Array (Int × Value)} {ep i : Nat}
theorem SitAt.typeIs {n : Nat} (h : SitAt w s.heap it S xs i n ep) : s.TypeIs (.ref it) "set_iterator" := let ⟨o, ho, hc, _⟩ := h; ⟨o, ho, hc⟩
theorem SetAt.typeIs (h : SetAt w s.heap S xs es ep) : s.TypeIs (.ref S) "set" := ⟨_, h, rfl⟩
theorem fits_es (hel : ElS xs es) (hs : xs ∈ subs) : (tabS (ledOf w) xs).fits es.size = true := by rw [hel.len]; exact (fits_ok (ledOf w) xs hs).1
theorem drawn_no {Q : Bool → Shared → Prop} (hS : SetAt w s.heap S xs es ep) (hel : ElS xs es) (hs : xs ∈ subs) (h : Q false s) : wpAny (model prog w) A (setDrawn S) Q E s := by
  unfold setDrawn
  refine wpAny_bind (wpAny_setState_of hS rfl (fits_es hel hs) ?_)
  dsimp only
  unfold setsByText
  refine wpAny_bind (wpAny_bind (wpAny_askSetting (wpAny_pure ?_)))
  refine wpAny_pure ?_
  have e : (!w.params.followText "set-order" && (!true && decide (es.size > 1))) = false := by simp
  have := e ▸ h
  exact this
theorem iter_set {Q : Value → Shared → Prop} (hS : SetAt w s.heap S xs es ep) (hel : ElS xs es) (hs : xs ∈ subs)
    (hQ : Q (.ref s.heap.objs.size) { s with heap := s.heap.push { cls := .type "set_iterator", data := .fields #[.int 0 0, .int 0 0, .ref S, .int es.size 0, .int ep 0] } }) :
    wpAny (model prog w) A (pyIter (.ref S)) Q E s := by
  refine wpAny_pyIter_slot hS.typeIs F.slot_set_iter (wpAny_call_entry F.slot_set_iter hS.typeIs entry_set_iter ?_ (F.args_set_iter_1 _))
  unfold Builtin.«frozenset.__iter__»
  refine wpAny_bind (wpAny_pure ?_)
  refine wpAny_bind ?_
  unfold Builtin.Frozenset.sizeOf
  refine wpAny_bind (wpAny_setEntries_of hS rfl (fits_es hel hs) (wpAny_pure ?_))
  refine wpAny_bind (drawn_no hS hel hs ?_)
  rw [if_neg Bool.false_ne_true]
  refine wpAny_bind (wpAny_pure ?_)
  refine wpAny_bind (wpAny_setEpoch_of hS rfl (fits_es hel hs) ?_)
  unfold newFields
  refine wpAny_bind (wpAny_newObj_type (wpAny_pure ⟨_, rfl, "set_iterator", _, ⟨_, Heap.get?_push_size _ rfl, rfl⟩, slot_sit_next.lookup, ?_⟩))
  simpa [rawInt] using hQ
theorem self_sit {n : Nat} {Q : Value → Shared → Prop} (hit : SitAt w s.heap it S xs i n ep) (h : Q (.ref it) s) : wpAny (model prog w) A (pyIter (.ref it)) Q E s := by
  refine wpAny_pyIter_slot hit.typeIs slot_sit_iter (wpAny_call_entry slot_sit_iter hit.typeIs entry_sit_iter ?_ (args_sit_iter _))
  show wpAny _ _ (ret (.ref it)) _ _ s
  exact wpAny_pure ⟨_, rfl, "set_iterator", _, hit.typeIs, slot_sit_next.lookup, h⟩
theorem next_set {Q : Option (Value × Nat) → Shared → Prop} (hS : SetAt w s.heap S xs es ep) (hel : ElS xs es) (hs : xs ∈ subs) (hi : i ≤ es.size)
    (h : Q (((ordOf w S ep es)[i]?).map fun e => (e.2, firstAt w xs (i + 1))) s) : wpAny (model prog w) A (setNext S (firstAt w xs i) i ep) Q E s := by
  unfold setNext
  refine wpAny_bind (wpAny_setState_of hS rfl (fits_es hel hs) ?_)
  dsimp only
  unfold setsByText
  refine wpAny_bind (wpAny_bind (wpAny_askSetting (wpAny_pure ?_)))
  show wpAny _ _ (if w.params.followText "set-order" = true then _ else _) _ _ _
  unfold ordOf firstAt at *
  cases hb : w.params.followText "set-order" with
  | true =>
    rw [hb] at h
    simp only [if_true] at h ⊢
    rw [if_neg (by simp)]
    unfold setWalk
    refine wpAny_bind (wpAny_bind (wpAny_setState_of hS rfl (fits_es hel hs) ?_))
    dsimp only
    unfold setsByText
    refine wpAny_bind (wpAny_bind (wpAny_askSetting (wpAny_pure ?_)))
    show wpAny _ _ (if w.params.followText "set-order" = true then _ else _) _ _ _
    rw [if_pos hb]
    refine wpAny_bind (wpAny_askSetting (wpAny_pure ?_))
    exact wpAny_pure h
  | false =>
    rw [hb] at h
    simp only [Bool.false_eq_true, if_false] at h ⊢
    have hl : ledOf w = true := by unfold ledOf; rw [hb]; rfl
    refine wpAny_bind (show wpAny _ _ (if (!(ledOf w) && !es.isEmpty) = true then unsupported "set:maker-not-led" else pure ()) _ _ _ from ?_)
    rw [hl, if_neg (by simp)]
    refine wpAny_pure (wpAny_pure ?_)
    have hl6 := (fits_ok true xs hs).2.1
    have hb2 : SetTable.below (tabS true xs).place (slotAt xs i) = i := walk_ok xs hs i (List.mem_range.mpr (by have := hel.len; omega)) (by have := hel.len; omega)
    rw [hb2]
    have hpl : (tabS true xs).place[i]? = xs[i]? := by simp [tabS]
    rw [hpl]
    by_cases hlt : i < es.size
    · have hlx : i < xs.length := by have := hel.len; omega
      rw [Array.getElem?_eq_getElem hlt, List.getElem?_eq_getElem hlx]
      rw [Array.getElem?_eq_getElem hlt] at h
      have e1 : slotAt xs (i + 1) = xs[i] + 1 := by simp [slotAt, hlx]
      rw [e1] at h
      exact h
    · rw [Array.getElem?_eq_none (by omega)]
      rw [Array.getElem?_eq_none (by omega)] at h
      exact h
theorem SetAt.keep {h h' : Heap} (x : SetAt w h S xs es ep) (e : ∀ o, h.get? S = some o → h'.get? S = some o) : SetAt w h' S xs es ep := e _ x
theorem SitAt.keep {h h' : Heap} {n : Nat} (x : SitAt w h it S xs i n ep) (e : ∀ o, h.get? it = some o → h'.get? it = some o) : SitAt w h' it S xs i n ep := let ⟨o, ho, r⟩ := x; ⟨o, e _ ho, r⟩
theorem sit_item {Q : Option Value → Shared → Prop} (hit : SitAt w s.heap it S xs i es.size ep) (hS : SetAt w s.heap S xs es ep) (hel : ElS xs es) (hs : xs ∈ subs) (hi : i < es.size)
    (hQ : ∀ v h', (∃ e, (ordOf w S ep es)[i]? = some e ∧ e.2 = v) → SitAt w h' it S xs (i + 1) es.size ep → (∀ b o, b ≠ it → s.heap.get? b = some o → h'.get? b = some o) → Q (some v) { s with heap := h' }) :
    wpAny (model prog w) A (pyNext (.ref it)) Q E s := by
  obtain ⟨o, ho, hc, hd⟩ := id hit
  have hi' : i < (ordOf w S ep es).size := by rw [ord_size]; exact hi
  have hoe : (ordOf w S ep es)[i]? = some (ordOf w S ep es)[i] := Array.getElem?_eq_getElem hi'
  unfold pyNext
  refine wpAny_bind (wpAny_attempt (wpAny_callSpecial?_slot (name := Str.ofString "__next__") hit.typeIs slot_sit_next
    (wpAny_call_entry slot_sit_next hit.typeIs entry_sit_next ?_ (args_sit_next _))))
  show wpAny _ _ (fieldsOf (.ref it) >>= _) _ _ s
  refine wpAny_bind (wpAny_fieldsOf ho hd ?_)
  show wpAny _ _ (setEntries S >>= _) _ _ s
  refine wpAny_bind (wpAny_setEntries_of hS rfl (fits_es hel hs) ?_)
  rw [if_neg (by simp)]
  show wpAny _ _ (setNext S (firstAt w xs i) i ep >>= _) _ _ s
  refine wpAny_bind (next_set hS hel hs (Nat.le_of_lt hi) ?_)
  rw [hoe]
  show wpAny _ _ (setField (.ref it) 0 (rawInt (firstAt w xs (i + 1))) >>= _) _ _ s
  refine wpAny_bind (wpAny_setField ho hd (by simp) ?_)
  have ho2 : (s.heap.update it (Obj.mapFields (·.setIfInBounds 0 (rawInt (firstAt w xs (i + 1)))))).get? it = some (Obj.mapFields (·.setIfInBounds 0 (rawInt (firstAt w xs (i + 1)))) o) :=
    Heap.get?_update_self _ ho (Obj.isFreed_of_fields (Obj.data_mapFields hd _))
  refine wpAny_bind (wpAny_setField ho2 (Obj.data_mapFields hd _) (by simp) ?_)
  refine wpAny_pure ⟨_, rfl, wpAny_pure (hQ _ _ ⟨_, hoe, rfl⟩ ⟨_, Heap.get?_update_self _ ho2 (Obj.isFreed_of_fields (Obj.data_mapFields (Obj.data_mapFields hd _) _)), ?_, ?_⟩ fun b o' hb e => ?_)⟩
  · rw [Obj.cls_mapFields, Obj.cls_mapFields]; exact hc
  · rw [Obj.data_mapFields (Obj.data_mapFields hd _)]; simp [rawInt]
  · exact (Heap.get?_update_other _ _ (Ne.symm hb)).trans ((Heap.get?_update_other _ _ (Ne.symm hb)).trans e)
theorem sit_end {Q : Option Value → Shared → Prop} (hh : A.handled = none) (hit : SitAt w s.heap it S xs es.size es.size ep) (hS : SetAt w s.heap S xs es ep) (hel : ElS xs es) (hs : xs ∈ subs)
    (hQ : ∀ h', (∀ b o, b ≠ it → s.heap.get? b = some o → h'.get? b = some o) → Q none { s with heap := h' }) :
    wpAny (model prog w) A (pyNext (.ref it)) Q E s := by
  obtain ⟨o, ho, hc, hd⟩ := id hit
  unfold pyNext
  refine wpAny_bind (wpAny_attempt (wpAny_callSpecial?_slot (name := Str.ofString "__next__") hit.typeIs slot_sit_next
    (wpAny_call_entry slot_sit_next hit.typeIs entry_sit_next ?_ (args_sit_next _))))
  show wpAny _ _ (fieldsOf (.ref it) >>= _) _ _ s
  refine wpAny_bind (wpAny_fieldsOf ho hd ?_)
  show wpAny _ _ (setEntries S >>= _) _ _ s
  refine wpAny_bind (wpAny_setEntries_of hS rfl (fits_es hel hs) ?_)
  rw [if_neg (by simp)]
  show wpAny _ _ (setNext S (firstAt w xs es.size) es.size ep >>= _) _ _ s
  refine wpAny_bind (next_set hS hel hs (Nat.le_refl _) ?_)
  rw [Array.getElem?_eq_none (by rw [ord_size]; exact Nat.le_refl _)]
  show wpAny _ _ (setField (.ref it) 2 .none >>= _) _ _ s
  refine wpAny_bind (wpAny_setField ho hd (by simp) ?_)
  show wpAny _ _ (newExc (.type "StopIteration") [] >>= _) _ _ _
  refine wpAny_bind ?_
  simp only [newExc, newTuple]
  refine wpAny_bind (wpAny_newObj_type ?_ (by size_fits))
  refine wpAny_bind (m := firstArgMember _ _) (wpAny_of_eq (a := Value.none) (by first | rfl | (simp only [firstArgMember]; rfl)) ?_)
  refine wpAny_newObj_type ?_ (by size_fits)
  simp only [raiseNew]
  refine wpAny_bind (wpAny_handled ?_)
  rw [show A.in1.handled = none from hh]
  refine wpAny_bind (wpAny_pure (wpAny_throw ?_))
  refine wpAny_bind (wpAny_isInstance (T := "StopIteration") (b := true) ⟨_, Heap.get?_push_size _ rfl, rfl⟩ isSubtype_stop ?_)
  exact wpAny_pure (hQ _ fun b o' hb e => (((Heap.SameBut.update ..).extBut.push _).push _) b o' hb e)
theorem Walks.smallSet (hh : A.handled = none) (I : Addr) (hne : S ≠ I) (hel : ElS xs es) (hs : xs ∈ subs) :
    Walks prog w A I [I, S] [I] es.size (fun i v => ∃ e, (ordOf w S ep es)[i]? = some e ∧ e.2 = v) (fun i h => SitAt w h I S xs i es.size ep ∧ SetAt w h S xs es ep) where
  sub := fun b hb => by simp at hb; simp [hb]
  frame := fun _ _ _ st hk => ⟨st.1.keep fun o e => hk I (by simp) o e, st.2.keep fun o e => hk S (by simp) o e⟩
  item := fun i s Q E hi st hQ => by
    refine sit_item st.1 st.2 hel hs hi fun v h' hv hit' hk => ?_
    exact hQ v h' s.toks hv ⟨hit', st.2.keep fun o e => hk S o hne e⟩ fun b o hb e => hk b o (fun h => hb (by simp [h])) e
  done := fun s Q E st hQ => sit_end hh st.1 st.2 hel hs fun h' hk => hQ h' s.toks fun b o hb e => hk b o (fun h => hb (by simp [h])) e
  self := fun _ _ _ _ st hQ => self_sit st.1 hQ
theorem hint_set {Q : Bool → Shared → Prop} (hT : s.TypeIs (.ref S) "set") (h : Q false s) : wpAny (model prog w) A (Builtin.List.listLengthHint (.ref S)) Q E s := by
  unfold Builtin.List.listLengthHint
  refine wpAny_bind (wpAny_specialOf hT F.slot_set_len.lookup ?_)
  generalize hid : ("set.__len__" : String) = id0
  wp_delta
  rw [show splitId id0 = some ("set", "__len__") from by subst hid; decide +kernel]
  subst hid
  refine wpAny_bind (wpAny_isInstance (T := "set") (b := true) hT (by rw [isSubtype_type]; kernel_rfl) ?_)
  refine wpAny_ite_split (fun hab => absurd hab (by decide)) (fun _ => ?_)
  refine wpAny_ite_split (fun _ => ?_) (fun hab => absurd (by decide +kernel) hab)
  refine wpAny_bind (wpAny_typeOf hT ?_)
  exact wpAny_pure h
theorem set_src (hel : ElS xs es) (hs : xs ∈ subs) : KdlSrc prog w "set" S S es.size (fun i v => ∃ e, (ordOf w S ep es)[i]? = some e ∧ e.2 = v) (fun h => SetAt w h S xs es ep) where
  type := fun _ h => h.typeIs
  there := fun _ h => ⟨Heap.lt_size h, Heap.lt_size h⟩
  keep := fun _ _ h hk => h.keep fun o e => hk S (.inl rfl) o e
  notList := by decide
  notTuple := by decide
  hint := fun _ _ _ _ h hq => hint_set h.typeIs hq
  iter := fun _ s hh h => ⟨_, _, (fun _ _ hq => iter_set h hel hs hq), Walks.smallSet hh _ (Nat.ne_of_lt (Heap.lt_size h)) hel hs,
    ⟨⟨_, Heap.get?_push_size _ rfl, rfl, by simp [firstAt, slotAt]⟩, h.keep fun o e => Heap.get?_push_of_some _ e⟩⟩
end
section
variable {prog : Program} {w : World} {A : Around} {E : Value → Shared → Prop} {s : Shared} {h₀ : Heap} {L S : Addr} {m : Str → Option Value} {news : Led} {xs : List Nat}
theorem ints_pairs : ∀ (ps : List (Int × Value)), (∀ e ∈ ps, ∃ t, e.2 = Value.int e.1 t) → IntsAre (ps.map (·.2)) (ps.map (·.1))
  | [], _ => .nil
  | p :: r, h => by
    obtain ⟨t, e⟩ := h p (List.mem_cons_self ..)
    rw [List.map_cons, List.map_cons, e]
    exact .cons _ t (ints_pairs r fun q hq => h q (List.mem_cons_of_mem _ hq))
theorem sorted_set {Q : Value → Shared → Prop} (hh : A.handled = none) (F : Fr h₀ L s.heap m) (N : News h₀ L s.heap news) (hS : SetIs s.heap S (ledOf w) xs)
    (h : ∀ (D : Addr) (h' : Heap) (tk : Nat) (vs : List Value) (ns : List Int) (c : Nat), Fr h₀ L h' m → News h₀ L h' ((D, W.listOf vs.toArray c) :: news) → (∀ q ∈ news, q.1 < D) → IntsAre vs ns → ns.Perm (xs.map Int.ofNat) → ns.Pairwise (· ≤ ·) →
      Q (.ref D) { s with heap := h', toks := tk }) :
    wpAny (model prog w) A (call (.builtin "sorted") [.ref S]) Q E s := by
  obtain ⟨es, ep, ho, hel, hs⟩ := hS
  refine kdu_sorted (set_src (ep := ep) hel hs) hh F N ho (by have := hel.len; have := (fits_ok true xs hs).2.1; rw [sizeLine_eq]; omega) fun D h' tk vs F' N' l1 hl hv => ?_
  have e : vs = (ordOf w S ep es).toList.map (·.2) := by
    apply List.ext_getElem?
    intro j
    by_cases hj : j < vs.length
    · obtain ⟨e, he, e2⟩ := hv j vs[j] (List.getElem?_eq_getElem hj)
      rw [List.getElem?_eq_getElem hj, List.getElem?_map, Array.getElem?_toList, he, ← e2]; rfl
    · rw [List.getElem?_eq_none (by omega), List.getElem?_eq_none (by rw [List.length_map, Array.length_toList, ord_size]; omega)]
  have hp := ord_perm w S ep es
  have hi : IntsAre vs ((ordOf w S ep es).toList.map (·.1)) := by
    rw [e]
    exact ints_pairs _ fun p hpm => hel.2 p (hp.mem_iff.mp hpm)
  have hpx : ((ordOf w S ep es).toList.map (·.1)).Perm (xs.map Int.ofNat) := hel.1 ▸ hp.map _
  have hD := (N' _ (List.mem_cons_self ..)).1
  have hDL := (N' _ (List.mem_cons_self ..)).2
  have h6 := (fits_ok true xs hs).2.1
  have hlen := hel.len
  refine wpAny_call_entry slot_list_sort ⟨_, hD, rfl⟩ entry_list_sort (list_sort_tree hD hi (by omega) fun out ns' a1 a2 a3 => ⟨_, rfl, ?_⟩) (args_list_sort _)
  obtain ⟨c, hc⟩ := sortedHeap_at (vs := vs) (out := out) hD
  have hk : ∀ b o, b ≠ D → h'.get? b = some o → (sortedHeap h' D vs out).get? b = some o := fun b o hb e => by rw [sortedHeap_old hb (Heap.lt_size e)]; exact e
  have F2 : Fr h₀ L (sortedHeap h' D vs out) m := by
    obtain ⟨oL, b1, b2, hL, b3⟩ := F'.ns
    refine ⟨⟨oL, b1, b2, hk _ _ (Ne.symm hDL.1) hL, b3⟩, fun b o e => hk b o (fun eb => ?_) (F'.keep b o e), F'.above⟩
    rw [eb, hDL.2] at e; cases e
  refine h D _ tk out.toList ns' c F2 (fun p hp => ?_) l1 a1 (a2.trans hpx) a3
  rcases List.mem_cons.mp hp with rfl | hp
  · exact ⟨hc, hDL⟩
  · have := N' p (List.mem_cons_of_mem _ hp)
    exact ⟨hk _ _ (Nat.ne_of_lt (l1 p hp)) this.1, this.2⟩
end
end

section
/-! words of the three signs -/
def txt (ks : List Nat) : Str := ⟨ks.toArray⟩
theorem foldl_txt : ∀ (ks : List Nat) (a : Array Nat), (ks.map fun k => txt [k]).foldl (fun acc p => acc ++ (Str.ofString "").cps ++ p.cps) a = a ++ ks.toArray
  | [], a => by simp
  | k :: r, a => by
    have e : (Str.ofString "").cps = #[] := by decide
    have ih := foldl_txt r (a ++ (Str.ofString "").cps ++ (txt [k]).cps)
    rw [List.map_cons, List.foldl_cons, ih, e]
    apply Array.toList_inj.mp
    simp [txt]
theorem join_txt (ks : List Nat) : Txt.join "" (ks.map fun k => txt [k]) = txt ks := by
  cases ks with
  | nil => rfl
  | cons k r =>
    show (⟨((((k :: r).map fun k => txt [k]).drop 1).foldl (fun acc p => acc ++ (Str.ofString "").cps ++ p.cps) (((k :: r).map fun k => txt [k]).headD Str.empty).cps)⟩ : Str) = txt (k :: r)
    rw [List.map_cons, List.drop_succ_cons, List.drop_zero, foldl_txt]
    simp [txt]
theorem len_txt (ks : List Nat) : (txt ks).length = ks.length := by
  show ks.toArray.size = ks.length
  simp
theorem item_txt {ks : List Nat} {k : Nat} {c : Nat} (h : ks[k]? = some c) : Txt.item (txt ks) (k : Int) = txt [c] := by
  have hlt := (List.getElem?_eq_some_iff.mp h).1
  have e1 : ¬ (k : Int) < 0 := by omega
  have e2 : (decide (0 ≤ (k : Int)) && decide ((k : Int) < (ks.length : Int))) = true := by simp; omega
  unfold Txt.item Txt.charAt
  rw [len_txt]
  simp only [seqIndex?, e1, if_false, e2, if_true]
  show (⟨#[((some (k : Int).toNat).bind fun i => ks.toArray[i]?).getD 0]⟩ : Str) = txt [c]
  rw [Int.toNat_natCast]
  show (⟨#[(ks.toArray[k]?).getD 0]⟩ : Str) = txt [c]
  rw [List.getElem?_toArray, h]
  rfl
theorem flat_one (g : Nat → Nat) : ∀ ks : List Nat, (ks.map (Array.toList ∘ fun c => #[g c])).flatten = ks.map g
  | [] => rfl
  | k :: r => by rw [List.map_cons, List.flatten_cons, flat_one g r]; rfl
theorem placed_txt {f : Nat → Nat → List Nat} {g : Nat → Nat} {ks : List Nat} (h : ∀ i c, ks[i]? = some c → f i c = [g c]) : (⟨placed (txt ks) f⟩ : Str) = txt (ks.map g) := by
  unfold placed
  have e : ((txt ks).cps.mapIdx fun i c => (f i c).toArray) = ks.toArray.map fun c => #[g c] := by
    apply Array.ext
    · simp [txt]
    · intro i h1 h2
      have hi : i < ks.length := by simpa [txt] using h1
      simp [txt, h i ks[i] (List.getElem?_eq_getElem hi)]
  rw [e]
  show (⟨(ks.toArray.map fun c => #[g c]).flatten⟩ : Str) = ⟨(ks.map g).toArray⟩
  congr 1
  apply Array.toList_inj.mp
  rw [Array.toList_flatten, Array.toList_map, List.map_map]
  exact flat_one g ks
def swC (c : Nat) : Nat := if c = 97 then 65 else if c = 65 then 97 else c
def lwC (c : Nat) : Nat := if c = 65 then 97 else c
theorem uni : Unicode.isUpper 46 = false ∧ Unicode.isLower 46 = false ∧ Unicode.isUpper 97 = false ∧ Unicode.isLower 97 = true ∧ Unicode.upperOf 97 = [65] ∧ Unicode.isUpper 65 = true ∧ Unicode.lowerOf 65 = [97] ∧ Unicode.lowerOf 46 = [46] ∧ Unicode.lowerOf 97 = [97] := by decide +kernel
theorem lowerAt_of {s : Array Nat} {i c : Nat} (h : s[i]? = some c) (hc : (c == 0x3A3) = false) : Unicode.lowerAt s i = Unicode.lowerOf c := by
  unfold Unicode.lowerAt
  rw [h]
  dsimp only
  rw [hc]
  rfl
theorem swap_txt {ks : List Nat} (h : ∀ c ∈ ks, c = 46 ∨ c = 97 ∨ c = 65) : Txt.swapcase (txt ks) = txt (ks.map swC) := by
  obtain ⟨u1, u2, u3, u4, u5, u6, u7, _, _⟩ := uni
  refine placed_txt fun i c hi => ?_
  have hs : (txt ks).cps[i]? = some c := by show ks.toArray[i]? = some c; rw [List.getElem?_toArray, hi]
  rcases h c (List.mem_of_getElem? hi) with rfl | rfl | rfl
  · rw [u1, u2]; rfl
  · rw [u3, u4, u5]; rfl
  · rw [u6, lowerAt_of hs rfl, u7]; rfl
theorem lower_txt {ks : List Nat} (h : ∀ c ∈ ks, c = 46 ∨ c = 97 ∨ c = 65) : Txt.lower (txt ks) = txt (ks.map lwC) := by
  obtain ⟨_, _, _, _, _, _, u7, u8, u9⟩ := uni
  refine placed_txt fun i c hi => ?_
  have hs : (txt ks).cps[i]? = some c := by show ks.toArray[i]? = some c; rw [List.getElem?_toArray, hi]
  rcases h c (List.mem_of_getElem? hi) with rfl | rfl | rfl
  · rw [lowerAt_of hs rfl, u8]; rfl
  · rw [lowerAt_of hs rfl, u9]; rfl
  · rw [lowerAt_of hs rfl, u7]; rfl
def all2 : Nat → List (List Nat)
  | 0 => [[]]
  | n + 1 => ((all2 n).map fun r => 46 :: r) ++ ((all2 n).map fun r => 97 :: r)
theorem all2_of : ∀ (ks : List Nat), (∀ c ∈ ks, c = 46 ∨ c = 97) → ks ∈ all2 ks.length
  | [], _ => List.mem_singleton.mpr rfl
  | k :: r, h => by
    have ih := all2_of r fun x hx => h x (List.mem_cons_of_mem _ hx)
    show k :: r ∈ _ ++ _
    rcases h k (List.mem_cons_self ..) with rfl | rfl
    · exact List.mem_append_left _ (List.mem_map.mpr ⟨r, ih, rfl⟩)
    · exact List.mem_append_right _ (List.mem_map.mpr ⟨r, ih, rfl⟩)
set_option maxRecDepth 1000000 in
theorem has_46 : ∀ n ∈ [4, 6], ∀ ks ∈ all2 n, Txt.contains (txt ks) "a" = ks.any (fun c => c != 46) := by decide +kernel
def signC (x : Int) : Nat := if x = 0 then 46 else if x < 0 then 65 else 97
theorem sign_txt (x : Int) : signOf x = txt [signC x] := by
  unfold signOf signC
  split
  · rfl
  · split <;> rfl
theorem signC_cases (x : Int) : signC x = 46 ∨ signC x = 97 ∨ signC x = 65 := by
  unfold signC
  split
  · exact .inl rfl
  · split
    · exact .inr (.inr rfl)
    · exact .inr (.inl rfl)
/-- the word of a sign function -/
def wordOf (z : Nat) (σ : Nat → Int) : Str := Txt.join "" ((List.range z).map fun m => signOf (σ m))
theorem word_txt (z : Nat) (σ : Nat → Int) : wordOf z σ = txt ((List.range z).map fun m => signC (σ m)) := by
  unfold wordOf
  rw [← join_txt, List.map_map]
  congr 1
  apply List.map_congr_left
  intro m _
  exact sign_txt _
theorem swC_sign (x : Int) : swC (signC x) = signC (-x) := by
  unfold signC
  by_cases h : x = 0
  · subst h; rfl
  · by_cases h2 : x < 0
    · rw [if_neg h, if_pos h2, if_neg (by omega), if_neg (by omega)]; rfl
    · rw [if_neg h, if_neg h2, if_neg (by omega), if_pos (by omega)]; rfl
theorem word_facts {z : Nat} (hz : z = 4 ∨ z = 6) (σ : Nat → Int) :
    (wordOf z σ).length = z ∧ (∀ k, k < z → Txt.item (wordOf z σ) (k : Int) = signOf (σ k)) ∧ Txt.swapcase (wordOf z σ) = wordOf z (fun m => -σ m) ∧ (hasA (wordOf z σ) = true ↔ ∃ m, m < z ∧ σ m ≠ 0) := by
  have h3 : ∀ c ∈ (List.range z).map (fun m => signC (σ m)), c = 46 ∨ c = 97 ∨ c = 65 := fun c hc => by
    obtain ⟨m, _, rfl⟩ := List.mem_map.mp hc
    exact signC_cases _
  refine ⟨?_, fun k hk => ?_, ?_, ?_⟩
  · rw [word_txt, len_txt]; simp
  · rw [word_txt, sign_txt]
    exact item_txt (by simp [hk])
  · rw [word_txt, word_txt, swap_txt h3, List.map_map]
    congr 1
    apply List.map_congr_left
    intro m _
    exact swC_sign _
  · unfold hasA
    rw [word_txt, lower_txt h3]
    have hm : ((List.range z).map fun m => signC (σ m)).map lwC ∈ all2 z := by
      have := all2_of (((List.range z).map fun m => signC (σ m)).map lwC) fun c hc => by
        obtain ⟨d, hd, rfl⟩ := List.mem_map.mp hc
        rcases h3 d hd with rfl | rfl | rfl
        · exact .inl rfl
        · exact .inr rfl
        · exact .inr rfl
      simpa using this
    rw [has_46 z (by rcases hz with rfl | rfl <;> decide) _ hm, List.any_eq_true]
    constructor
    · rintro ⟨c, hc, e⟩
      obtain ⟨d, hd, rfl⟩ := List.mem_map.mp hc
      obtain ⟨m, hm, rfl⟩ := List.mem_map.mp hd
      refine ⟨m, List.mem_range.mp hm, fun h0 => ?_⟩
      rw [h0] at e
      exact absurd e (by decide)
    · rintro ⟨m, hm, h0⟩
      refine ⟨_, List.mem_map.mpr ⟨_, List.mem_map.mpr ⟨m, List.mem_range.mpr hm, rfl⟩, rfl⟩, ?_⟩
      unfold signC
      rw [if_neg h0]
      split <;> decide
/-- what a lamp's way wishes -/
def wishOf (x : Int) : Str := if x = 0 then "a" else if x = 1 then "A" else "."
def wishC (x : Int) : Nat := if x = 0 then 97 else if x = 1 then 65 else 46
theorem wish_txt (x : Int) : wishOf x = txt [wishC x] := by
  unfold wishOf wishC
  split
  · rfl
  · split <;> rfl
theorem wish_cases (x : Int) : wishOf x = "." ∨ wishOf x = "a" ∨ wishOf x = "A" := by
  unfold wishOf
  split
  · exact .inr (.inl rfl)
  · split
    · exact .inr (.inr rfl)
    · exact .inl rfl
def wishWord (z : Nat) (f : Nat → Int) : Str := Txt.join "" ((List.range z).map fun m => wishOf (f m))
theorem wish_facts {z : Nat} (_hz : z = 4 ∨ z = 6) (f : Nat → Int) : (wishWord z f).length = z ∧ ∀ k, k < z → Txt.item (wishWord z f) (k : Int) = wishOf (f k) := by
  have e : wishWord z f = txt ((List.range z).map fun m => wishC (f m)) := by
    unfold wishWord
    rw [← join_txt, List.map_map]
    congr 1
    apply List.map_congr_left
    intro m _
    exact wish_txt _
  rw [e]
  refine ⟨by rw [len_txt]; simp, fun k hk => ?_⟩
  rw [wish_txt]
  exact item_txt (by simp [hk])
end

section
open PyProof.Rows.LCg PyProof.V
/-! lemmas of _law_reached -/
section
variable {prog : Program} {w : World} {A : Around} {E : Value → Shared → Prop} {s : Shared} {env : Env} {h₀ : Heap} {target : Expr} {body : List Stmt} {Q : Flow → Shared → Prop}
theorem tup_turns {ax : Addr} {its : List Value} {m₀ : Str → Option Value} {news : Led} (J : Nat → (Str → Option Value) → Led → Prop)
    (hh : A.handled = none) (F : Fr h₀ env.locals s.heap m₀) (N : News h₀ env.locals s.heap news) (hm : (ax, tupObj its.toArray) ∈ news) (h0 : J 0 m₀ news)
    (turn : ∀ (i : Nat) v m₁ news₁ h₁ tk₁ own I, its[i]? = some v → J i m₁ news₁ → (∀ p ∈ news, p.1 < I) → (∀ p ∈ news₁, p.1 ∉ [I]) → (∀ p ∈ own, p.1 ∈ [I, ax]) → (∃ o, (I, o) ∈ own) → Fr h₀ env.locals h₁ m₁ → News h₀ env.locals h₁ (own ++ news₁) →
      wpAny (model prog w) A (assign target env v) (fun _ s₃ => wpAny (model prog w) A (execs body env) (TEnd h₀ env.locals [I] own (J (i + 1)) { s with heap := h₁, toks := tk₁ } Q) E s₃) E { s with heap := h₁, toks := tk₁ })
    (fin : ∀ h' tk m' news', Fr h₀ env.locals h' m' → News h₀ env.locals h' news' → J its.length m' news' → Q .next { s with heap := h', toks := tk }) :
    wpAny (model prog w) A (pyIter (.ref ax)) (fun it s₂ => TurnsAt prog w A h₀ env target body Q E it s₂) E s := by
  have hax := N _ hm
  have hl : s.heap.IsTuple ax its.toArray := ⟨_, hax.1, rfl, _, rfl⟩
  have hlt : ax < s.heap.objs.size := Heap.lt_size hax.1
  refine wpAny_pyIter_tuple hl ?_
  refine ⟨s.heap.objs.size, [s.heap.objs.size, ax], [s.heap.objs.size], its.toArray.size, _, _, _, m₀, news, J, rfl, KTurns.ofWalks (Walks.tuple hh s.heap.objs.size ax (Nat.ne_of_lt hlt) its.toArray) (fun i v s Q E st q => letGo_tupleiter st.1 q), ?_, ?_, ?_,
    ⟨⟨_, Heap.get?_push_size _ rfl, rfl, rfl⟩, hl.push _⟩, F.push _, (fun p hp => ⟨Heap.get?_push_of_some _ (N p hp).1, (N p hp).2⟩), h0, ?_, ?_⟩
  · intro hI
    rcases List.mem_cons.mp hI with e | hI
    · exact absurd F.ns.lt (e ▸ Nat.lt_irrefl _)
    · exact hax.2.1 (List.mem_singleton.mp hI).symm
  · intro b hb
    rw [List.mem_singleton.mp hb]
    exact next_is_new F
  · intro p hp hI
    exact absurd (Heap.lt_size (N p hp).1) ((List.mem_singleton.mp hI) ▸ Nat.lt_irrefl _)
  · rintro i v m₁ news₁ h₁ tk₁ own hin hP hJ hoff hown _ hall st F₁ N₁
    obtain ⟨oI, hoI, _⟩ := st.1
    exact turn i v m₁ news₁ h₁ tk₁ own _ (by simpa using hP) hJ (fun p hp => Heap.lt_size (N p hp).1) hoff hown ⟨_, hall _ (List.mem_cons_self ..) (next_is_new F) _ hoI⟩ F₁ N₁
  · intro h' tk m' news' F' N' _ hJ
    exact fin h' tk m' news' F' N' (by simpa using hJ)
end
section
variable {prog : Program} {w : World} {A : Around} {E : Value → Shared → Prop} {s : Shared} {h₀ : Heap} {L D : Addr} {m : Str → Option Value} {news : Led}
theorem ext_upd {its its2 : List Value} {n n2 : Nat} {b : Addr} {g : Obj → Led} {Q : Value → Shared → Prop} (F : Fr h₀ L s.heap m) (N : News h₀ L s.heap news) (hb : (b, W.listOf its2.toArray n2) ∈ news) (U : UpdF D (W.listOf its.toArray n) news g)
    (hz : its.length ≤ 100000) (hz2 : its2.length ≤ 100000)
    (h : ∀ h' c, Fr h₀ L h' m → News h₀ L h' (g (W.listOf (its ++ its2).toArray c)) → Q .none { s with heap := h' }) : wpAny (model prog w) A (call (.builtin "list.extend") [.ref D, .ref b]) Q E s := by
  obtain ⟨pre, post, rfl, hg, hp, hq⟩ := U.split
  have hm : (D, W.listOf its.toArray n) ∈ pre ++ (D, W.listOf its.toArray n) :: post := List.mem_append_right _ (List.mem_cons_self ..)
  have z := N _ hm
  have e1 : its.toArray.size = its.length := List.size_toArray ..
  have e2 : its2.toArray.size = its2.length := List.size_toArray ..
  have hsz : sizeLine ≥ 1000000 := by decide
  refine call_meets PySem.F.slot_list_extend ⟨_, z.1, rfl⟩ PySem.F.entry_list_extend (PySem.F.args_list_extend_2 _ _) (AutoSeq1.list_extend_list_list_0 D its.toArray n b its2.toArray n2 (by simp [Builtin.List.listTooLong]; (first | lia | omega)) (by (first | lia | omega)) (by (first | lia | omega))) ⟨z.1, (N _ hb).1, ?_⟩
  have hu := get?_update_seq (c := "list") z.1 (fun x => x ++ its2.toArray)
  refine h _ (if ((its.toArray ++ its2.toArray).size == its.toArray.size) = true then n else n + 1) (F.change (Heap.SameBut.update ..) z.2.1 z.2.2) (news_sub (news_updL N hm (Heap.SameBut.update ..) hu) fun p hpm => ?_)
  rw [hg] at hpm
  rcases List.mem_append.mp hpm with hm | hm
  · exact updL_mem (List.mem_append_left _ hm) (hp p hm)
  · rcases List.mem_cons.mp hm with rfl | hm
    · have e : ∀ c, W.listOf (its ++ its2).toArray c = seqObj "list" (its.toArray ++ its2.toArray) c := fun c => by simp
      rw [e]
      exact updL_new (List.mem_append_right _ (List.mem_cons_self ..))
    · exact updL_mem (List.mem_append_right _ (List.mem_cons_of_mem _ hm)) (hq p hm)
theorem ints_get {vs : List Value} {ns : List Int} (hi : IntsAre vs ns) {i : Nat} {v : Value} (h : vs[i]? = some v) : ∃ t, v = .int (ns.getD i 0) t ∧ ns.getD i 0 ∈ ns := by
  have hl := hi.length
  have hlt := (List.getElem?_eq_some_iff.mp h).1
  obtain ⟨t, e⟩ := ints_at hi (i := i) (by (first | lia | omega))
  rw [h] at e
  refine ⟨t, Option.some.inj e, ?_⟩
  have : ns.getD i 0 = ns[i] := by simp [List.getD, show i < ns.length by omega]
  rw [this]; exact List.getElem_mem _
theorem set_of_led {l : Addr} {vs : List Value} {ns : List Int} {n : Nat} {Q : Value → Shared → Prop} (hh : A.handled = none) (F : Fr h₀ L s.heap m) (N : News h₀ L s.heap news) (hm : (l, W.listOf vs.toArray n) ∈ news) (hi : IntsAre vs ns) (hb : ∀ x ∈ ns, 0 ≤ x ∧ x < 6)
    (h : ∀ D h' tk xs, Fr h₀ L h' m → News h₀ L h' news → SetIs h' D (ledOf w) xs → (∀ y : Nat, y ∈ xs ↔ (y : Int) ∈ ns) → Q (.ref D) { s with heap := h', toks := tk }) :
    wpAny (model prog w) A (call (.type "set") [.ref l]) Q E s := by
  have hl := hi.length
  refine set_of_list (ns := ns.map Int.toNat) hh (isList_of N hm) (fun i v hv => ?_) fun h' tk xs hS hx hk => ?_
  · have hv' : vs[i]? = some v := by simpa using hv
    obtain ⟨t, e, hmem⟩ := ints_get hi hv'
    have hlt := (List.getElem?_eq_some_iff.mp hv').1
    have hb1 := hb _ hmem
    have e2 : (ns.map Int.toNat).getD i 0 = (ns.getD i 0).toNat := by simp [List.getD, show i < ns.length by (first | lia | omega)]
    rw [e2]
    exact ⟨by (first | lia | omega), t, by rw [e, Int.toNat_of_nonneg hb1.1]⟩
  · refine h _ h' tk xs (F.kept hk) (fun p hp => ⟨hk _ _ (N p hp).1, (N p hp).2⟩) hS fun y => ?_
    rw [hx]
    constructor
    · rintro ⟨j, hj, e⟩
      have hj' : j < ns.length := by simpa [hl] using hj
      have e2 : (ns.map Int.toNat).getD j 0 = (ns[j]).toNat := by simp [List.getD, hj']
      have hmem := List.getElem_mem hj'
      have hb1 := hb _ hmem
      have : (y : Int) = ns[j] := by rw [e2] at e; (first | lia | omega)
      rw [this]; exact hmem
    · intro hy
      obtain ⟨j, hj, e⟩ := List.mem_iff_getElem.mp hy
      refine ⟨j, by simpa [hl] using hj, ?_⟩
      simp [List.getD, hj, e]
end
/-- the sign function and its opposite -/
def sgnOf (σ : Nat → Int) (e : Nat) : Nat → Int := if e = 0 then σ else fun m => -σ m
def costAt (ways : List Int) (σ : Nat → Int) (k : Nat) : Int := costOf (wishOf (iAt ways k)) (signOf (σ k))
def badAt (ways : List Int) (barred : Int) (σ : Nat → Int) (k : Nat) : Bool := decide (costAt ways σ k = 1) || (decide (iAt ways k = barred) && decide (costAt ways σ k = 2))
def goodAt (ways : List Int) (σ : Nat → Int) (k : Nat) : Bool := decide (iAt ways k < 2) && decide (costAt ways σ k = 0)
/-- the lamps that a sign function tells -/
def hits (ways : List Int) (barred : Int) (z : Nat) (σ : Nat → Int) (x : Int) : Prop :=
  ((List.range z).filter (badAt ways barred σ)).map Int.ofNat = [] ∧ x ∈ ((List.range z).filter (goodAt ways σ)).map Int.ofNat
def RI (r c5 c4 : Addr) (R : Led) (m₁ : Str → Option Value) (ways : List Int) (barred : Int) (z : Nat) (P0 : Int → Prop) (c0 : Nat) (σ : Nat → Int) (i : Nat) (m : Str → Option Value) (led : Led) : Prop :=
  m = m₁ ∧ ∃ (vals : List Value) (ns : List Int) (n : Nat) (o5 o4 : Obj) (v5 v4 : Option Value), led = (r, W.listOf vals.toArray n) :: (c5, o5) :: (c4, o4) :: R ∧ o5.data = Data.cell v5 ∧ o4.data = Data.cell v4 ∧
    IntsAre vals ns ∧ ns.length ≤ c0 + 6 * i ∧ ∀ x, x ∈ ns ↔ P0 x ∨ ∃ e, e < i ∧ hits ways barred z (sgnOf σ e) x
def toldBy (ways : List Int) (barred : Int) (z : Nat) (sg : List (Nat → Int)) (x : Int) : Prop := ∃ σ ∈ sg, ∃ e, e < 2 ∧ hits ways barred z (sgnOf σ e) x
def RJ (r c5 c4 : Addr) (R : Led) (m₀ : Str → Option Value) (ways : List Int) (barred : Int) (z : Nat) (sg : List (Nat → Int)) (i : Nat) (m : Str → Option Value) (led : Led) : Prop :=
  OffStored ["word"] m₀ m ∧ ∃ (vals : List Value) (ns : List Int) (n : Nat) (o5 o4 : Obj) (v5 v4 : Option Value), led = (r, W.listOf vals.toArray n) :: (c5, o5) :: (c4, o4) :: R ∧ o5.data = Data.cell v5 ∧ o4.data = Data.cell v4 ∧
    IntsAre vals ns ∧ ns.length ≤ 12 * i ∧ ∀ x, x ∈ ns ↔ toldBy ways barred z (sg.take i) x
/-- the ledger at a turn's start, its own things behind -/
theorem turn3 {h₀ h : Heap} {L r c5 c4 I ax : Addr} {own R : Led} {o a b : Obj} (N : News h₀ L h (own ++ (r, o) :: (c5, a) :: (c4, b) :: R)) (hoff : ∀ p ∈ (r, o) :: (c5, a) :: (c4, b) :: R, p.1 ∉ [I]) (hown : ∀ p ∈ own, p.1 ∈ [I, ax])
    (h1 : ax ≠ r) (h2 : ax ≠ c5) (h3 : ax ≠ c4) (hR : ∀ p ∈ R, p.1 ≠ r ∧ p.1 ≠ c5 ∧ p.1 ≠ c4) :
    ∃ X, X = own ++ R ∧ News h₀ L h ((r, o) :: (c5, a) :: (c4, b) :: X) ∧ (∀ p ∈ X, p.1 ≠ r) ∧ (∀ p ∈ X, p.1 ≠ c5) ∧ (∀ p ∈ X, p.1 ≠ c4) ∧ ∀ p ∈ R, p ∈ X := by
  have k1 : r ≠ I := fun e => hoff (r, o) (by simp) (by simp [e])
  have k2 : c5 ≠ I := fun e => hoff (c5, a) (by simp) (by simp [e])
  have k3 : c4 ≠ I := fun e => hoff (c4, b) (by simp) (by simp [e])
  have key : ∀ p ∈ own ++ R, p.1 ≠ r ∧ p.1 ≠ c5 ∧ p.1 ≠ c4 := fun p hp => by
    rcases List.mem_append.mp hp with hp | hp
    · rcases List.mem_cons.mp (hown p hp) with e | e
      · rw [e]; exact ⟨Ne.symm k1, Ne.symm k2, Ne.symm k3⟩
      · rw [List.mem_singleton.mp e]; exact ⟨h1, h2, h3⟩
    · exact hR p hp
  exact ⟨_, rfl, news_sub N fun z hz => by simp at hz ⊢; grind, fun p hp => (key p hp).1, fun p hp => (key p hp).2.1, fun p hp => (key p hp).2.2, fun p hp => List.mem_append_right _ hp⟩
theorem reach_shape {h₀ h : Heap} {L l D c5 c4 : Addr} {a b c o3 o4 o5 ol : Obj} {news : Led} (N : News h₀ L h ((l, ol) :: (D, a) :: (c5, b) :: (c4, c) :: (L + 1 + 1 + 1, o3) :: (L + 1 + 1, o4) :: (L + 1, o5) :: news)) (e5 : c5 = L + 1 + 1 + 1 + 1 + 1) (e4 : c4 = L + 1 + 1 + 1 + 1)
    (lt : @LT.lt Nat _ D l ∧ @LT.lt Nat _ c5 l ∧ @LT.lt Nat _ c4 l ∧ @LT.lt Nat _ (L + 1 + 1 + 1) l ∧ @LT.lt Nat _ (L + 1 + 1) l ∧ @LT.lt Nat _ (L + 1) l ∧ AllLt l news) (n5 : c5 ≠ D) (n4 : c4 ≠ D) (l1 : ∀ p ∈ news, p.1 < L) :
    ∃ R, News h₀ L h ((l, ol) :: (c5, b) :: (c4, c) :: R) ∧ (∀ p ∈ R, p.1 ≠ l ∧ p.1 ≠ c5 ∧ p.1 ≠ c4) ∧ (L + 1 + 1 + 1, o3) ∈ R ∧ (L + 1 + 1, o4) ∈ R ∧ (L + 1, o5) ∈ R ∧ (∀ p ∈ news, p ∈ R) ∧ @LT.lt Nat _ c5 l ∧ @LT.lt Nat _ c4 c5 := by
  subst e5 e4
  obtain ⟨g1, g2, g3, g4, g5, g6, g7⟩ := lt
  refine ⟨(D, a) :: (L + 1 + 1 + 1, o3) :: (L + 1 + 1, o4) :: (L + 1, o5) :: news, news_sub N fun z hz => by simp at hz ⊢; grind, fun p hp => ?_, by simp, by simp, by simp, fun p hp => by simp [hp], g2, Nat.lt_succ_self _⟩
  simp only [List.mem_cons] at hp
  rcases hp with rfl | rfl | rfl | rfl | hp
  · exact ⟨Nat.ne_of_lt g1, Ne.symm n5, Ne.symm n4⟩
  · exact ⟨Nat.ne_of_lt g4, Nat.ne_of_lt (by (first | lia | omega)), Nat.ne_of_lt (by (first | lia | omega))⟩
  · exact ⟨Nat.ne_of_lt g5, Nat.ne_of_lt (by (first | lia | omega)), Nat.ne_of_lt (by (first | lia | omega))⟩
  · exact ⟨Nat.ne_of_lt g6, Nat.ne_of_lt (by (first | lia | omega)), Nat.ne_of_lt (by (first | lia | omega))⟩
  · have : @LT.lt Nat _ p.1 L := l1 p hp
    exact ⟨Nat.ne_of_lt (ktn_ltOf g7 p hp), Nat.ne_of_lt (by (first | lia | omega)), Nat.ne_of_lt (by (first | lia | omega))⟩
theorem RJ.start {r c5 c4 : Addr} {R : Led} {m₀ : Str → Option Value} {ways : List Int} {barred : Int} {z : Nat} {sg : List (Nat → Int)} {o5 o4 : Obj} {v5 v4 : Option Value} (h5 : o5.data = Data.cell v5) (h4 : o4.data = Data.cell v4) :
    RJ r c5 c4 R m₀ ways barred z sg 0 m₀ ((r, W.listOf #[] 0) :: (c5, o5) :: (c4, o4) :: R) :=
  ⟨OffStored.refl _ _, [], [], 0, o5, o4, v5, v4, rfl, h5, h4, .nil, Nat.le_refl _, fun x => ⟨(fun h => nomatch h), (fun ⟨_, h, _⟩ => by simp at h)⟩⟩
theorem RI.start {r c5 c4 : Addr} {R : Led} {m₁ : Str → Option Value} {ways : List Int} {barred : Int} {z c0 n : Nat} {P0 : Int → Prop} {σ : Nat → Int} {o5 o4 : Obj} {v5 v4 : Option Value} {vals : List Value} {ns : List Int} (h5 : o5.data = Data.cell v5) (h4 : o4.data = Data.cell v4)
    (hi : IntsAre vals ns) (hl : ns.length ≤ c0) (hx : ∀ x, x ∈ ns ↔ P0 x) :
    RI r c5 c4 R m₁ ways barred z P0 c0 σ 0 m₁ ((r, W.listOf vals.toArray n) :: (c5, o5) :: (c4, o4) :: R) :=
  ⟨rfl, vals, ns, n, o5, o4, v5, v4, rfl, h5, h4, hi, by omega, fun x => by rw [hx]; exact ⟨.inl, fun h => h.elim id fun ⟨e, he, _⟩ => absurd he (Nat.not_lt_zero _)⟩⟩
theorem word_fits {z : Nat} (hz : z = 4 ∨ z = 6) (σ : Nat → Int) : Builtin.Str.tooLong (Txt.swapcase (wordOf z σ)).length = false := by
  rw [(word_facts hz σ).2.2.1]
  unfold Builtin.Str.tooLong
  rw [(word_facts hz (fun m => -σ m)).1]
  rcases hz with rfl | rfl <;> decide
theorem strs_get {vs : List Value} {ss : List Str} : StrsAre vs ss → ∀ {i : Nat} {v : Value} {y : Str}, vs[i]? = some v → ss[i]? = some y → ∃ t, v = .str y t := by
  intro h
  induction h with
  | nil => intro i v y h _; simp at h
  | cons x t r ih =>
    intro i v y h1 h2
    cases i with
    | zero => simp at h1 h2; exact ⟨t, by rw [← h1, ← h2]⟩
    | succ i => exact ih (by simpa using h1) (by simpa using h2)
/-- the inner loop's start: the tuple goes behind -/
theorem inner_shape {h₀ h : Heap} {L T r c5 c4 : Addr} {ot a b c : Obj} {X : Led} (N : News h₀ L h ((T, ot) :: (r, a) :: (c5, b) :: (c4, c) :: X)) (lt : @LT.lt Nat _ r T ∧ @LT.lt Nat _ c5 T ∧ @LT.lt Nat _ c4 T ∧ AllLt T X) (x1 : ∀ p ∈ X, p.1 ≠ r) (x2 : ∀ p ∈ X, p.1 ≠ c5) (x3 : ∀ p ∈ X, p.1 ≠ c4) :
    ∃ R, R = (T, ot) :: X ∧ News h₀ L h ((r, a) :: (c5, b) :: (c4, c) :: R) ∧ (∀ p ∈ R, p.1 ≠ r ∧ p.1 ≠ c5 ∧ p.1 ≠ c4) ∧ (T, ot) ∈ R := by
  obtain ⟨g1, g2, g3, _⟩ := lt
  refine ⟨_, rfl, news_sub N fun z hz => by simp at hz ⊢; grind, fun p hp => ?_, List.mem_cons_self ..⟩
  rcases List.mem_cons.mp hp with rfl | hp
  · exact ⟨Nat.ne_of_gt g1, Nat.ne_of_gt g2, Nat.ne_of_gt g3⟩
  · exact ⟨x1 p hp, x2 p hp, x3 p hp⟩
theorem two_strs {z : Nat} {σ : Nat → Int} {t u : Tok} {e : Nat} {v : Value} (h : [Value.str (wordOf z σ) t, Value.str (wordOf z fun m => -σ m) u][e]? = some v) : e < 2 ∧ ∃ t', v = .str (wordOf z (sgnOf σ e)) t' := by
  match e, h with
  | 0, h => exact ⟨by decide, t, (Option.some.inj h).symm⟩
  | 1, h => exact ⟨by decide, u, (Option.some.inj h).symm⟩
theorem ones (f : Int → Str) (hf : ∀ x, (f x).length = 1) (x : Int) : (f x).length ≤ 1 := Nat.le_of_eq (hf x)
theorem wish_len (x : Int) : (wishOf x).length ≤ 1 := by rcases wish_cases x with e | e | e <;> rw [e] <;> decide
theorem sign_len' (x : Int) : (signOf x).length ≤ 1 := Nat.le_of_eq (sign_len x)
theorem zs_small {z : Nat} (hz : z = 4 ∨ z = 6) : ((z : Int) - 0).toNat ≤ sizeLine := by
  rcases hz with rfl | rfl <;> (rw [sizeLine_eq]; decide)
theorem ints_of' {z : Nat} {g : Nat → Int} {ys : List Value} (hl : ys.length = ((z : Int) - 0).toNat) (h : ∀ i y, ys[i]? = some y → ∃ t, y = Value.int (g i) t) : IntsAre ys ((List.range z).map g) ∧ ∀ j, j < z → ∃ t, ys[((j : Nat) : Int).toNat]? = some (.int (g j) t) := by
  have hz : ys.length = z := by (first | lia | omega)
  refine ⟨ints_of hz h, fun j hj => ?_⟩
  have hj' : j < ys.length := by (first | lia | omega)
  obtain ⟨t, e⟩ := h j ys[j] (List.getElem?_eq_getElem hj')
  exact ⟨t, by rw [Int.toNat_natCast, List.getElem?_eq_getElem hj', e]⟩
theorem lt_zs {z j : Nat} (h : j < ((z : Int) - 0).toNat) : j < z := by (first | lia | omega)
theorem nat_lt {j z n : Nat} (h : j < z) (e : n = z) : ((j : Nat) : Int) < (n : Int) := by (first | lia | omega)
theorem nat_64 {j z : Nat} (h : j < z) (hz : z = 4 ∨ z = 6) : ((j : Nat) : Int) < 64 := by (first | lia | omega)
theorem nat_63 {j z : Nat} (h : j < z) (hz : z = 4 ∨ z = 6) : ((j : Nat) : Int) < 2 ^ 63 := by (first | lia | omega)
theorem bad_1 {ways : List Int} {barred : Int} {τ : Nat → Int} {j : Nat} (h : costAt ways τ j = 1) : true = badAt ways barred τ j := by unfold badAt; rw [decide_eq_true h]; rfl
theorem bad_2 {ways : List Int} {barred : Int} {τ : Nat → Int} {j : Nat} (h1 : iAt ways j = barred) (h : costAt ways τ j = 2) : true = badAt ways barred τ j := by unfold badAt; rw [decide_eq_true h, decide_eq_true h1, Bool.true_and, Bool.or_true]
theorem bad_3 {ways : List Int} {barred : Int} {τ : Nat → Int} {j : Nat} (h : costAt ways τ j ≠ 1) (h2 : costAt ways τ j ≠ 2) : false = badAt ways barred τ j := by unfold badAt; rw [decide_eq_false h, decide_eq_false h2, Bool.and_false]; rfl
theorem bad_4 {ways : List Int} {barred : Int} {τ : Nat → Int} {j : Nat} (h : costAt ways τ j ≠ 1) (h2 : iAt ways j ≠ barred) : false = badAt ways barred τ j := by unfold badAt; rw [decide_eq_false h, decide_eq_false h2, Bool.false_and]; rfl
theorem good_1 {ways : List Int} {τ : Nat → Int} {j : Nat} (h1 : iAt ways j < 2) (h : costAt ways τ j = 0) : true = goodAt ways τ j := by unfold goodAt; rw [decide_eq_true h1, decide_eq_true h]; rfl
theorem good_2 {ways : List Int} {τ : Nat → Int} {j : Nat} (h : costAt ways τ j ≠ 0) : false = goodAt ways τ j := by unfold goodAt; rw [decide_eq_false h, Bool.and_false]
theorem good_3 {ways : List Int} {τ : Nat → Int} {j : Nat} (h1 : ¬ iAt ways j < 2) : false = goodAt ways τ j := by unfold goodAt; rw [decide_eq_false h1, Bool.false_and]
theorem good_3' {ways : List Int} {τ : Nat → Int} {j : Nat} (h1 : 2 ≤ iAt ways j) : false = goodAt ways τ j := good_3 (by (first | lia | omega))
theorem ri_end {r c5 c4 I : Addr} {own R X all : Led} {m₁ : Str → Option Value} {ways : List Int} {barred : Int} {z c0 n e : Nat} {P0 : Int → Prop} {σ : Nat → Int} {ol a b o5 o4 : Obj} {v5 v4 : Option Value} {vals : List Value} {ns : List Int}
    (hX : X = own ++ R) (hoff : ∀ p ∈ (r, ol) :: (c5, a) :: (c4, b) :: R, p.1 ∉ [I]) (h5 : o5.data = Data.cell v5) (h4 : o4.data = Data.cell v4) (hi : IntsAre vals ns) (hl : ns.length ≤ c0 + 6 * (e + 1))
    (hx : ∀ x, x ∈ ns ↔ P0 x ∨ ∃ e', e' < e + 1 ∧ hits ways barred z (sgnOf σ e') x) (sub : ∀ p ∈ (r, W.listOf vals.toArray n) :: (c5, o5) :: (c4, o4) :: X, p ∈ all) :
    ∃ news', RI r c5 c4 R m₁ ways barred z P0 c0 σ (e + 1) m₁ news' ∧ (∀ p ∈ news', p.1 ∉ [I]) ∧ ∀ p ∈ own ++ news', p ∈ all := by
  refine ⟨(r, W.listOf vals.toArray n) :: (c5, o5) :: (c4, o4) :: R, ⟨rfl, vals, ns, n, o5, o4, v5, v4, rfl, h5, h4, hi, hl, hx⟩, fun p hp => ?_, fun p hp => sub p ?_⟩
  · simp only [List.mem_cons] at hp
    rcases hp with rfl | rfl | rfl | hp
    · exact hoff (r, ol) (by simp)
    · exact hoff (c5, a) (by simp)
    · exact hoff (c4, b) (by simp)
    · exact hoff p (by simp [hp])
  · subst hX
    simp only [List.mem_append, List.mem_cons] at hp ⊢
    grind
theorem rj_end {r c5 c4 I : Addr} {own R X all : Led} {m₀ m' : Str → Option Value} {ways : List Int} {barred : Int} {z n i : Nat} {sg : List (Nat → Int)} {ol a b o5 o4 : Obj} {v5 v4 : Option Value} {vals : List Value} {ns : List Int}
    (hm : OffStored ["word"] m₀ m') (hX : X = own ++ R) (hoff : ∀ p ∈ (r, ol) :: (c5, a) :: (c4, b) :: R, p.1 ∉ [I]) (h5 : o5.data = Data.cell v5) (h4 : o4.data = Data.cell v4) (hi : IntsAre vals ns) (hl : ns.length ≤ 12 * (i + 1))
    (hx : ∀ x, x ∈ ns ↔ toldBy ways barred z (sg.take (i + 1)) x) (sub : ∀ p ∈ (r, W.listOf vals.toArray n) :: (c5, o5) :: (c4, o4) :: X, p ∈ all) :
    ∃ news', RJ r c5 c4 R m₀ ways barred z sg (i + 1) m' news' ∧ (∀ p ∈ news', p.1 ∉ [I]) ∧ ∀ p ∈ own ++ news', p ∈ all := by
  refine ⟨(r, W.listOf vals.toArray n) :: (c5, o5) :: (c4, o4) :: R, ⟨hm, vals, ns, n, o5, o4, v5, v4, rfl, h5, h4, hi, hl, hx⟩, fun p hp => ?_, fun p hp => sub p ?_⟩
  · simp only [List.mem_cons] at hp
    rcases hp with rfl | rfl | rfl | hp
    · exact hoff (r, ol) (by simp)
    · exact hoff (c5, a) (by simp)
    · exact hoff (c4, b) (by simp)
    · exact hoff p (by simp [hp])
  · subst hX
    simp only [List.mem_append, List.mem_cons] at hp ⊢
    grind
theorem told_skip {ways : List Int} {barred : Int} {z e : Nat} {P0 : Int → Prop} {σ : Nat → Int} {ns : List Int} (hns : ∀ x, x ∈ ns ↔ P0 x ∨ ∃ e', e' < e ∧ hits ways barred z (sgnOf σ e') x)
    (hb : ¬ ((List.range z).filter (badAt ways barred (sgnOf σ e))).map Int.ofNat = []) : ∀ x, x ∈ ns ↔ P0 x ∨ ∃ e', e' < e + 1 ∧ hits ways barred z (sgnOf σ e') x := fun x => by
  rw [hns]
  constructor
  · rintro (h | ⟨e', h, k⟩)
    · exact .inl h
    · exact .inr ⟨e', by (first | lia | omega), k⟩
  · rintro (h | ⟨e', h, k⟩)
    · exact .inl h
    · by_cases he : e' = e
      · subst he; exact absurd k.1 hb
      · exact .inr ⟨e', by (first | lia | omega), k⟩
theorem told_add {ways : List Int} {barred : Int} {z e : Nat} {P0 : Int → Prop} {σ : Nat → Int} {ns : List Int} (hns : ∀ x, x ∈ ns ↔ P0 x ∨ ∃ e', e' < e ∧ hits ways barred z (sgnOf σ e') x)
    (hb : ((List.range z).filter (badAt ways barred (sgnOf σ e))).map Int.ofNat = []) : ∀ x, x ∈ ns ++ ((List.range z).filter (goodAt ways (sgnOf σ e))).map Int.ofNat ↔ P0 x ∨ ∃ e', e' < e + 1 ∧ hits ways barred z (sgnOf σ e') x := fun x => by
  rw [List.mem_append, hns]
  constructor
  · rintro ((h | ⟨e', h, k⟩) | h)
    · exact .inl h
    · exact .inr ⟨e', by (first | lia | omega), k⟩
    · exact .inr ⟨e, by (first | lia | omega), hb, h⟩
  · rintro (h | ⟨e', h, k⟩)
    · exact .inl (.inl h)
    · by_cases he : e' = e
      · subst he; exact .inr k.2
      · exact .inl (.inr ⟨e', by (first | lia | omega), k⟩)
theorem filter_len (z : Nat) (p : Nat → Bool) : (((List.range z).filter p).map Int.ofNat).length ≤ z := by
  rw [List.length_map]
  exact Nat.le_trans (List.length_filter_le ..) (by simp)
theorem told_next {ways : List Int} {barred : Int} {z i : Nat} {sg : List (Nat → Int)} {σ : Nat → Int} {ns : List Int} (hσ : sg[i]? = some σ) (hns : ∀ x, x ∈ ns ↔ toldBy ways barred z (sg.take i) x ∨ ∃ e', e' < 2 ∧ hits ways barred z (sgnOf σ e') x) :
    ∀ x, x ∈ ns ↔ toldBy ways barred z (sg.take (i + 1)) x := fun x => by
  rw [hns, List.take_succ, hσ]
  unfold toldBy
  constructor
  · rintro (⟨τ, h, k⟩ | h)
    · exact ⟨τ, by simp [h], k⟩
    · exact ⟨σ, by simp, h⟩
  · rintro ⟨τ, h, k⟩
    rcases List.mem_append.mp h with h | h
    · exact .inl ⟨τ, h, k⟩
    · have : τ = σ := by simpa using h
      subst this; exact .inr k
/-- sorted, no doubles: what the lamps told are -/
theorem told_out {xs : List Nat} {ns ns0 : List Int} {ways : List Int} {barred : Int} {z : Nat} {sg : List (Nat → Int)} (hs : xs.Nodup) (hp : ns.Perm (xs.map Int.ofNat)) (hx : ∀ y : Nat, y ∈ xs ↔ (y : Int) ∈ ns0) (h0 : ∀ x ∈ ns0, 0 ≤ x ∧ x < 6)
    (hns : ∀ x, x ∈ ns0 ↔ toldBy ways barred z sg x) : ns.Nodup ∧ ∀ x, x ∈ ns ↔ toldBy ways barred z sg x := by
  constructor
  · refine hp.nodup_iff.mpr ?_
    rw [List.nodup_iff_pairwise_ne] at hs ⊢
    exact List.pairwise_map.mpr (hs.imp fun h e => h (Int.ofNat.inj e))
  · intro x
    rw [hp.mem_iff, ← hns]
    constructor
    · intro h
      obtain ⟨y, hy, rfl⟩ := List.mem_map.mp h
      exact (hx y).mp hy
    · intro h
      have hb := h0 x h
      refine List.mem_map.mpr ⟨x.toNat, (hx _).mpr ?_, ?_⟩
      · rw [Int.toNat_of_nonneg hb.1]; exact h
      · exact Int.toNat_of_nonneg hb.1
theorem hits_lt {ways : List Int} {barred : Int} {z : Nat} {σ : Nat → Int} {x : Int} (hz : z = 4 ∨ z = 6) (h : hits ways barred z σ x) : 0 ≤ x ∧ x < 6 := by
  obtain ⟨k, hk, rfl⟩ := List.mem_map.mp h.2
  have := List.mem_range.mp (List.mem_filter.mp hk).1
  show 0 ≤ (k : Int) ∧ (k : Int) < 6
  (first | lia | omega)
theorem len_add {a b c0 e z : Nat} (h : a ≤ c0 + 6 * e) (hb : b ≤ z) (hz : z = 4 ∨ z = 6) : a + b ≤ c0 + 6 * (e + 1) := by (first | lia | omega)
theorem len_keep {a c0 e : Nat} (h : a ≤ c0 + 6 * e) : a ≤ c0 + 6 * (e + 1) := by (first | lia | omega)
theorem big_1 {a b i e : Nat} (hl : b = a) (h : a ≤ 12 * i + 6 * e) (hi : i < 200) (he : e < 2) : b ≤ 100000 := by (first | lia | omega)
theorem big_2 {a b z : Nat} (hl : b = a) (h : a ≤ z) (hz : z = 4 ∨ z = 6) : b ≤ 100000 := by (first | lia | omega)
end

section
open PyProof.Rows.LCg
theorem item_word {prog : Program} {w : World} {A : Around} {E : Value → Shared → Prop} {s : Shared} {value slice : Expr} {x y : Str} {t u : Tok} {k : Int} {Q : Value → Shared → Prop} (h0 : 0 ≤ k) (h1 : k < 64) (hl : k < x.length) (e : Txt.item x k = y)
    (h : ∀ t' tk, Q (.str y t') { s with toks := tk })
    (hs : subscripted slice false (.str x t) (.int k u) = operate [.str x t, .int k u] (getItem (.str x t) (.int k u)) := by with_unfolding_all rfl)
    (ht : ∀ r, letTemporaryGo value (.str x t) r = pure () := by intro _; with_unfolding_all rfl) :
    wpAny (model prog w) A (subscriptTail value slice (.str x t) (.int k u)) Q E s :=
  item_str (fitsSsize_of (N := 9223372036854775808) (by omega) (by omega) (Int.le_refl _)) (by omega) hl (fun _ => by rw [e]; exact h _ _) hs ht
theorem ne3 {L : Addr} {news : Led} {o1 o2 : Obj} (l1 : ∀ p ∈ news, p.1 < L) : ∀ p ∈ (L + 1 + 1, o1) :: (L + 1, o2) :: news, p.1 ≠ L + 1 + 1 + 1 := 
  ne_cons (Nat.ne_of_lt (by omega)) (ne_cons (Nat.ne_of_lt (by omega)) fun p hp => Nat.ne_of_lt (Nat.lt_trans (l1 p hp) (by omega)))
theorem isL {h₀ h : Heap} {L l : Addr} {led : Led} {its : Array Value} {n : Nat} (N : News h₀ L h led) (hm : (l, W.listOf its n) ∈ led) : h.IsList l its := ⟨_, (N _ hm).1, rfl, n, rfl⟩
theorem lines_MReached : True := by
  k_with_none
  k_with "my mem" => (first | assumption | k_mem)
  k_with "my kmem" => (first | assumption | (refine List.mem_append_right _ ?_; k_mem) | (refine List.mem_cons_of_mem _ ?_; k_mem))
  k_with "my kmem" => (exact List.mem_cons_self ..)
  k_with "subscriptTail Name Name ref int" => (walk_at "my item")
  k_with "subscriptTail Name Constant ref int" => (walk_at "my item")
  k_with "my item" => ((with_reducible show wpAny _ _ (subscriptTail _ _ (Value.ref _) (Value.int _ _)) _ _ _); k_dflt (refine item_led (by k_asm) (by walk_at "my mem") (by first | decide | with_reducible assumption | omega) (by first | decide | with_reducible assumption | omega) (by first | with_reducible assumption | exact rfl) ?_ (by with_unfolding_all rfl); k_whole))
  k_with "call builtin:len" => (k_here; (with_reducible show wpAny _ _ (call (Value.builtin "len") [Value.ref _]) _ _ _); k_dflt (refine len_led (by k_asm) (by walk_at "my mem") (by first | assumption | exact rfl) (by first | with_reducible assumption | omega) ?_; k_whole); intro t' k')
  k_with "my for" => (k_here; (rename Fr _ _ _ _ => lF'); (with_unfolding_all refine For_turns lF' ?_; k_whole))
  k_with "my frame" => (repeat' (first | exact OffStored.base | exact OffStored.refl _ _ | refine OffStored.put (by decide) ?_))
  k_with "my append" => (k_here; k_dflt (show wpAny _ _ (call (Value.builtin "list.append") [Value.ref _, _]) _ _ _); k_dflt (refine append_led (by k_asm) (by k_asm) (by walk_at "my mem") ?_ (by first | assumption | size_fits)); intro h' F' N')
  k_with "my div" => (k_here; (with_reducible show wpAny _ _ (binaryOp _ (Value.int _ _) (Value.float _ _)) _ _ _); k_dflt (refine div_if (by exact rfl) (by first | assumption | omega) (by decide +kernel) ?_; k_whole))
  k_with "my join" => (refine JoinP.of (by k_asm) (by k_asm) (by (intro y hy; first | rfl | exact if_neg hy)) ?_)
  k_with "storeName" => (k_here; (try dsimp only); k_dflt (refine storeX_L (by k_asm) (by k_asm) ?_ (by rfl) (by rfl); k_whole; intro h' F' N'; (try k_sweep)))
  k_with "my enterC" => (refine code_defC (by k_asm) (by k_asm) (by k_asm) (by k_asm) (by k_asm) (by exact rfl) (by exact rfl) (by assumption) (by k_is) (by k_is) (by ktr_room) (by exact BindsTo.of_eq rfl) (by exact rfl) (by decide +kernel) ?_ (by exact rfl) (by exact rfl) (by exact rfl); k_whole; intro g' L' h' tk' cells' FG' F' N' Y' B' X' T' l1; k_cells Y'; (try simp only [List.cons_append, List.nil_append] at N'); (try dsimp only); (try k_lift B'); (try k_fold))
  k_with "setItem ref int" => (k_here; k_dflt (refine set_led (by k_asm) (by k_asm) (by walk_at "my mem") (by first | assumption | omega) (by first | assumption | omega) (by first | assumption | omega) ?_; k_whole); intro h' F' N')
  k_with "my tup" => ((with_reducible show wpAny _ _ (subscriptTail _ _ (Value.ref _) (Value.int _ _)) _ _ _); k_dflt (refine tup_led (by k_asm) (by walk_at "my mem") (by first | decide | with_reducible assumption | omega) (by first | decide | with_reducible assumption | omega) (by first | with_reducible assumption | exact rfl) ?_ (by with_unfolding_all rfl); k_whole))
  k_with "my comp" => (k_here; k_dflt (refine PyProof.Rows.LCg.CompSrc.ledger (by rfl) (by k_asm) (by k_asm) (by walk_at "my mem") (by first | assumption | size_fits | exact Nat.le_of_ble_eq_true rfl) ?_); intro g'; refine Halt.go ?_)
  k_with "my str.join" => (k_here; k_dflt (show wpAny _ _ (call (Value.builtin "str.join") [Value.str _ _, Value.ref _]) _ _ _); k_dflt (refine join_led (by k_asm) (by walk_at "my mem") (by assumption) (by assumption) (by assumption) (by decide +kernel) ?_); intro t' k')
  k_with "my free" => (k_here; (with_reducible show wpAny _ _ (eval (Expr.Name _ _) (compEnvC _ _ _ _)) _ _ _); k_dflt (refine ld_free (by rfl) (by k_asm) (by rfl) (by assumption) (by assumption) ?_))
  trivial

theorem more_MReached_1 : True := by
  k_with "my all" => (with_reducible assumption)
  k_with "my ne" => (first | with_reducible assumption | exact Ne.symm (by with_reducible assumption) | (show @Ne Nat _ _; omega) | exact Ne.symm (ne_of_off1 (by assumption) (_, _) (by k_mem)) | exact ne_of_off1 (by assumption) (_, _) (by k_mem))
  k_with "my updF" => (first | exact (UpdF.head (by with_reducible assumption)) | exact (UpdF.tail (by walk_at "my ne") (UpdF.head (by with_reducible assumption))) | exact (UpdF.tail (by walk_at "my ne") (UpdF.tail (by walk_at "my ne") (UpdF.head (by with_reducible assumption)))) | exact (UpdF.tail (by walk_at "my ne") (UpdF.tail (by walk_at "my ne") (UpdF.tail (by walk_at "my ne") (UpdF.head (by with_reducible assumption))))) | exact (UpdF.tail (by walk_at "my ne") (UpdF.tail (by walk_at "my ne") (UpdF.tail (by walk_at "my ne") (UpdF.tail (by walk_at "my ne") (UpdF.head (by with_reducible assumption)))))) | exact (UpdF.tail (by walk_at "my ne") (UpdF.tail (by walk_at "my ne") (UpdF.tail (by walk_at "my ne") (UpdF.tail (by walk_at "my ne") (UpdF.tail (by walk_at "my ne") (UpdF.head (by with_reducible assumption))))))))
  k_with "exec For Name Name cons nil" => (walk_at "my for")
  k_with "exec For Name Tuple cons nil" => (walk_at "my for")
  k_with "CompSrc" => (walk_at "my comp")
  k_with "CompSrc" => (k_here; k_dflt (refine PyProof.Rows.LCg.CompSrc.range (by rfl) (by k_asm) (by k_asm) (by with_reducible assumption) (by with_reducible assumption) (rangeSize_nat _ _) (by with_reducible assumption) ?_); intro g'; refine Halt.go ?_)
  k_with "CompSrcT" => (k_here; k_dflt (refine PyProof.Rows.LCt.CompSrcT.range (by rfl) (by k_asm) (by k_asm) (by with_reducible assumption) (by with_reducible assumption) (rangeSize_nat _ _) (by with_reducible assumption) ?_); intro g'; refine Halt.go ?_)
  k_with "eval Name" => (k_here; (with_reducible show wpAny _ _ (eval (Expr.Name _ _) (compEnvC _ _ _ _)) _ _ _); k_dflt (refine ld_free (by rfl) (by k_asm) (by rfl) (by k_mem) (by assumption) ?_))
  k_with "call builtin:str.join" => (walk_at "my str.join"; refine Halt.go ?_)
  k_with "call builtin:str.swapcase" => (k_here; (with_reducible show wpAny _ _ (call (Value.builtin "str.swapcase") [Value.str _ _]) _ _ _); (refine KXw.swapcase (by with_reducible assumption) (by with_reducible assumption) ?_); intro t' k')
  k_with "subscriptTail Name Name str int" => (k_here; (with_reducible show wpAny _ _ (subscriptTail _ _ (Value.str _ _) (Value.int _ _)) _ _ _); (refine item_word (by with_reducible assumption) (by with_reducible assumption) (by with_reducible assumption) (by with_reducible assumption) ?_); intro t' k')
  k_with "call ref" => (k_here; (with_reducible show wpAny _ _ (call _ [Value.str _ _, Value.str _ _]) _ _ _); k_dflt (refine call_use (cost_spec _ _ _ _ _ _ (by with_reducible assumption) (by with_reducible assumption)) (by k_asm) (by k_asm) (by k_asm) (by k_asm) (by k_asm) (by first | exact rfl | assumption) (by ktr_room) (by ktr_units) ?_); rintro r' tl' h' tk' F' N' o' ⟨e0', t0', e1'⟩; subst e0'; subst e1'; (try k_sweep))
  k_with "eval ListComp" => (k_here; (with_reducible show wpAny _ _ (eval (Expr.ListComp _ [⟨_, _, [_], _⟩] _ _) _) _ _ _); k_dflt (refine PyProof.Rows.LCt.ListComp_T (F₀ := by k_asm) (by with_unfolding_all rfl) (by decide) (by rfl) (by decide) (by rfl) ?_))
  k_with "compareOp Eq ref ref" => (k_here; (with_reducible show wpAny _ _ (compareOp CmpOp.Eq (Value.ref _) (Value.ref _)) _ _ _); refine Halt.go ?_)
  k_with "call builtin:list.extend" => (k_here; (with_reducible show wpAny _ _ (call (Value.builtin _) [Value.ref _, Value.ref _]) _ _ _); refine Halt.go ?_)
  k_with "call type:set cons nil" => (k_here; (with_reducible show wpAny _ _ (call (Value.type "set") [Value.ref _]) _ _ _); refine Halt.go ?_)
  k_with "call builtin:sorted" => (k_here; (with_reducible show wpAny _ _ (call (Value.builtin "sorted") [Value.ref _]) _ _ _); refine Halt.go ?_)
  trivial
theorem reached_spec (w : World) (news : Led) (lw : Addr) (wys : List Value) (ways : List Int) (n1 z : Nat) (h1 : (lw, W.listOf wys.toArray n1) ∈ news) (hw : IntsAre wys ways) (hwl : ways.length = z) (hz : z = 4 ∨ z = 6) (hwb : ∀ k, k < z → 0 ≤ iAt ways k ∧ iAt ways k < 4)
   (lm : Addr) (wvs : List Value) (sg : List (Nat → Int)) (n2 : Nat) (h2 : (lm, W.listOf wvs.toArray n2) ∈ news) (hws : StrsAre wvs (sg.map (wordOf z))) (hwn : sg.length ≤ 100) (barred : Int) (tb : Tok) :
   CallSpec w 137 [.ref lw, .ref lm, .int barred tb] news 20 (fun tl r => ∃ (lr : Addr) (vs : List Value) (ns : List Int) (n : Nat), r = .ref lr ∧ (lr, W.listOf vs.toArray n) ∈ tl ∧ IntsAre vs ns ∧ ns.Pairwise (· ≤ ·) ∧ ns.Nodup ∧ ∀ x, x ∈ ns ↔ toldBy ways barred z sg x) := by
  w_on
  intro p loose mean mg mb dp un gd cn cs a' ccd cl outer A₀ base h₀ L m s Q E B F X N T hk hd hu hret
  refine wpAny_call ?_
  have hvl : wys.length = z := by rw [hw.length]; exact hwl
  have hwsz : wys.toArray.size ≤ sizeLine := by simp [sizeLine]; omega
  k_dflt walk_at "my enterC"
  rename_i o1 o2 o3 o4 o5 d1 d2 d3 d4 d5
  replace d5 := data_cell d5 (y := Data.cell (some (Value.ref lw))) (by with_unfolding_all rfl)
  replace d4 := data_cell d4 (y := Data.cell (some (Value.int barred tb))) (by with_unfolding_all rfl)
  k_steps
  refine Halt.mk ?_
  refine comp_pure (fun j y => ∃ t, y = Value.str (wishOf (iAt ways j)) t) (src_led (by walk_at "my mem")) ?_ ?_
  · intro j v ys I oI C oC D m2 h tk E' hj hPv hC hx F N
    have hj' : j < z := by simpa [hvl] using hj
    obtain ⟨t, ev⟩ := ints_at hw (i := j) (by omega)
    have hb := hwb j hj'
    have ev : v = .int (iAt ways j) t := by
      have hPv : wys[j]? = some v := by simpa using hPv
      rw [ev] at hPv; exact (Option.some.inj hPv).symm
    subst ev
    have hc : iAt ways j = 0 ∨ iAt ways j = 1 ∨ iAt ways j = 2 ∨ iAt ways j = 3 := by omega
    rcases hc with hc | hc | hc | hc
    all_goals rw [hc] at hx
    all_goals k_steps
    all_goals exact cend_str (by rw [hc]; rfl) (by k_asm) (by k_asm)
  · intro ys hl hy
    have hst := strs_of (n := z) (g := fun j => wishOf (iAt ways j)) (by simpa [hvl] using hl) hy
    have q1 : ∀ g ∈ (List.range z).map (fun j => wishOf (iAt ways j)), g.length = 1 := fun g hg => by
      obtain ⟨m, _, rfl⟩ := List.mem_map.mp hg
      rcases wish_cases (iAt ways m) with e | e | e <;> rw [e] <;> rfl
    have q2 : ((List.range z).map fun j => wishOf (iAt ways j)).length ≤ 100 := by simp; omega
    have x3 := ne3 (o1 := o4) (o2 := o5) l1
    k_steps
    refine Halt.mk ?_
    rename L' + 1 + 1 + 1 + 1 + 1 ≠ _ ∧ _ => oD
    obtain ⟨oD5, oD4, oD3, oD2, oD1, oDn⟩ := oD
    k_steps
    rename News _ _ _ _ => N1
    rename Fr _ _ _ _ => F1
    rename _ ∧ _ ∧ _ ∧ _ ∧ _ ∧ _ ∧ AllLt _ news => l2
    rename Obj.data _ = Data.cell (some (Value.str _ _)) => d3w
    obtain ⟨R, N2, hRne, hc3, hc2, hc1, hnR, lt5, lt4⟩ := reach_shape N1 rfl rfl l2 oD5 oD4 l1
    clear N1
    have h1R := hnR _ h1
    have h2R := hnR _ h2
    with_unfolding_all refine list_turns (RJ _ _ _ R _ ways barred z sg) rfl F1 N2 (List.mem_cons_of_mem _ (List.mem_cons_of_mem _ (List.mem_cons_of_mem _ h2R))) (RJ.start d1 d2) ?_ ?_
    · rintro i v m₁ news₁ hp₁ tk₁ own I hv ⟨hm₁, vals, ns, nn, q5, q4, v5, v4, rfl, hq5, hq4, hvals, hnl, hns⟩ hltI hoff hown hI F2 N3
      obtain ⟨u, rfl⟩ := hm₁.form
      obtain ⟨X5, hX5, N4, x5r, x5c, x5d, hRX⟩ := turn3 N3 hoff hown (hRne _ h2R).1 (hRne _ h2R).2.1 (hRne _ h2R).2.2 hRne
      have hwl2 := hws.length
      have hi3 : i < sg.length := by
        have := (List.getElem?_eq_some_iff.mp hv).1
        simp at hwl2; omega
      obtain ⟨σ, hσ⟩ : ∃ σ, sg[i]? = some σ := ⟨_, List.getElem?_eq_getElem hi3⟩
      obtain ⟨tw, ev⟩ : ∃ t, v = .str (wordOf z σ) t := strs_get hws hv (by simp [hσ])
      subst ev
      obtain ⟨wf1, wf2, wf3, wf4⟩ := word_facts hz σ
      obtain ⟨wg1, wg2, wg3, wg4⟩ := word_facts hz (fun m => -σ m)
      have wf5 := word_fits hz σ
      clear N3 F1 N2
      k_steps
      rename News _ _ _ _ => N5
      rename Fr _ _ _ _ => F5
      rename _ ∧ _ ∧ _ ∧ AllLt _ X5 => l5
      obtain ⟨R2, hR2, N6, hR2ne, htR⟩ := inner_shape N5 l5 x5r x5c x5d
      have hXR : ∀ p ∈ X5, p ∈ R2 := fun p hp => by rw [hR2]; exact List.mem_cons_of_mem _ hp
      clear N5
      with_unfolding_all refine tup_turns (its := [Value.str (wordOf z σ) tw, Value.str (wordOf z fun m => -σ m) _]) (RI _ _ _ R2 _ ways barred z (toldBy ways barred z (sg.take i)) (12 * i) σ) rfl F5 N6 (List.mem_cons_of_mem _ (List.mem_cons_of_mem _ (List.mem_cons_of_mem _ htR))) (RI.start hq5 hq4 hvals hnl hns) ?_ ?_
      · rintro e v m₂ news₂ hp₂ tk₂ own2 I2 hv2 ⟨hm₂, vals2, ns2, nn2, r5, r4, w5, w4, rfl, hr5, hr4, hvals2, hnl2, hns2⟩ hltI2 hoff2 hown2 hI2 F6 N7
        subst hm₂
        obtain ⟨X6, hX6, N8, x6r, x6c, x6d, hRX6⟩ := turn3 N7 hoff2 hown2 (hR2ne _ htR).1 (hR2ne _ htR).2.1 (hR2ne _ htR).2.2 hR2ne
        obtain ⟨he2, te, ev2⟩ := two_strs hv2
        subst ev2
        obtain ⟨τ, hτ⟩ : ∃ τ, τ = sgnOf σ e := ⟨_, rfl⟩
        have hvK : IntsAre vals2 ns2 ∧ True := ⟨hvals2, trivial⟩
        rw [← hτ]
        obtain ⟨wt1, wt2, wt3, wt4⟩ := word_facts hz τ
        obtain ⟨ww1, ww2⟩ := wish_facts hz (iAt ways)
        have d3w : Obj.data _ = Data.cell (some (Value.str (wishWord z (iAt ways)) _)) := d3w
        have m3 := hRX6 _ (hXR _ (hRX _ hc3))
        have m2 := hRX6 _ (hXR _ (hRX _ hc2))
        have m1 := hRX6 _ (hXR _ (hRX _ hc1))
        have mw := hRX6 _ (hXR _ (hRX _ h1R))
        have hsm := small_z hz
        have hzs : ((z : Int) - 0).toNat ≤ sizeLine := zs_small hz
        clear N7 F5 N6 N4 F2
        k_steps
        refine Halt.mk ?_
        refine comp_pure (fun j y => ∃ t, y = Value.int (costAt ways τ j) t) trivial ?_ ?_
        · rintro j v ys3 I3 oI3 C3 oC3 D3 m3' h tk E' hj ⟨tj, ev⟩ hC hx F N
          rw [Int.zero_add] at ev
          subst ev
          have hj' : j < z := lt_zs hj
          have a0 : (0 : Int) ≤ (j : Nat) := Int.natCast_nonneg j
          have a1 := nat_64 hj' hz
          have a2 : ((j : Nat) : Int) < (wishWord z (iAt ways)).length := nat_lt hj' ww1
          have a3 : ((j : Nat) : Int) < (wordOf z τ).length := nat_lt hj' wt1
          have a4 := ww2 j hj'
          have a5 := wt2 j hj'
          have a6 := wish_len (iAt ways j)
          have a7 := sign_len' (τ j)
          k_steps
          exact cend_int rfl (by k_asm) (by k_asm)
        intro ysc hlc hyc
        obtain ⟨hcI, hcG⟩ := ints_of' (g := costAt ways τ) hlc hyc
        k_steps
        refine Halt.mk ?_
        refine comp_test (badAt ways barred τ) (fun j => (j : Int)) trivial ?_ ?_ ?_
        · rintro j v ys3 I3 oI3 C3 oC3 D3 m3' h tk E' hj ⟨tj, ev⟩ hC hx F N
          rw [Int.zero_add] at ev
          subst ev
          have hj' : j < z := lt_zs hj
          have a0 : (0 : Int) ≤ (j : Nat) := Int.natCast_nonneg j
          have a1 := nat_63 hj' hz
          obtain ⟨tc, ec⟩ := hcG j hj'
          obtain ⟨tv, eway⟩ := ints_at hw (i := j) (by rw [hwl]; exact hj')
          have eway : wys[((j : Nat) : Int).toNat]? = _ := eway
          k_steps
          · exact CEnd.of (by k_asm) (by k_asm) (bad_1 (by with_reducible assumption))
          · exact CEnd.of (by k_asm) (by k_asm) (bad_2 (by with_reducible assumption) (by with_reducible assumption))
          · exact CEnd.of (by k_asm) (by k_asm) (bad_3 (by with_reducible assumption) (by with_reducible assumption))
          · exact CEnd.of (by k_asm) (by k_asm) (bad_4 (by with_reducible assumption) (by with_reducible assumption))
        · rintro j v ys3 I3 oI3 C3 oC3 D3 m3' h tk E' hj ⟨tj, ev⟩ hC hx F N
          rw [Int.zero_add] at ev
          subst ev
          k_steps
          exact cend_int rfl (by k_asm) (by k_asm)
        intro ysb hyb
        rename _ ≠ _ ∧ _ ≠ _ ∧ _ ≠ _ ∧ Off1 _ X6 => oC
        obtain ⟨oC1, oC2, oC3, oC4⟩ := oC
        rename Obj.data _ = Data.cell (some (Value.ref _)) => d5c
        rename Obj.data _ = Data.cell (some (Value.str (wordOf z τ) _)) => d4c
        k_steps
        refine Halt.mk ?_
        rename News _ _ _ _ => N9
        have ez : ((z : Int) - 0).toNat = z := by rw [Int.sub_zero, Int.toNat_natCast]
        rw [ez] at hyb
        refine eq_intsK (vs := ysb) (us := []) (isL N9 (List.mem_cons_of_mem _ (List.mem_cons_self ..))) hyb (isL N9 (List.mem_cons_self ..)) .nil (by units_room) ?_
        replace N9 := news_sub N9 (led' := _ :: _ :: _ :: _ :: X6) (fun p hp => List.mem_cons_of_mem _ (List.mem_cons_of_mem _ hp))
        have hmz : ∀ q : Nat → Bool, List.map (fun j : Nat => (j : Int)) (List.filter q (List.range z)) = ((List.range z).filter q).map Int.ofNat := fun q => rfl
        rw [hmz] at hyb ⊢
        by_cases hb : ((List.range z).filter (badAt ways barred τ)).map Int.ofNat = []
        · rw [decide_eq_true hb]
          k_steps
          refine Halt.mk ?_
          refine comp_test (goodAt ways τ) (fun j => (j : Int)) trivial ?_ ?_ ?_
          · rintro j v ys3 I3 oI3 C3 oC3 D3 m3' h tk E' hj ⟨tj, ev⟩ hC hx F N
            rw [Int.zero_add] at ev
            subst ev
            have hj' : j < z := lt_zs hj
            have a0 : (0 : Int) ≤ (j : Nat) := Int.natCast_nonneg j
            have a1 := nat_63 hj' hz
            obtain ⟨tc, ec⟩ := hcG j hj'
            obtain ⟨tv, eway⟩ := ints_at hw (i := j) (by rw [hwl]; exact hj')
            have eway : wys[((j : Nat) : Int).toNat]? = _ := eway
            k_steps
            all_goals first
              | exact CEnd.of (by k_asm) (by k_asm) (good_1 (by with_reducible assumption) (by with_reducible assumption))
              | exact CEnd.of (by k_asm) (by k_asm) (good_2 (by with_reducible assumption))
              | exact CEnd.of (by k_asm) (by k_asm) (good_3 (by with_reducible assumption))
              | exact CEnd.of (by k_asm) (by k_asm) (good_3' (by with_reducible assumption))
          · rintro j v ys3 I3 oI3 C3 oC3 D3 m3' h tk E' hj ⟨tj, ev⟩ hC hx F N
            rw [Int.zero_add] at ev
            subst ev
            k_steps
            exact cend_int rfl (by k_asm) (by k_asm)
          intro ysg hyg
          rw [ez, hmz] at hyg
          have hygK : IntsAre ysg _ ∧ True := ⟨hyg, trivial⟩
          k_steps
          have hyg := hygK.1
          rename News _ _ _ _ => N10
          rename _ ≠ _ ∧ _ ≠ _ ∧ _ ≠ _ ∧ _ ≠ _ ∧ Off1 _ X6 => oG
          obtain ⟨oG0, oG1, oG2, oG3, oG4⟩ := oG
          have hgl := hyg.length
          have hgf := filter_len z (goodAt ways τ)
          have hvals2 := hvK.1
          have hv2l := hvals2.length
          refine ext_upd (its := vals2) (its2 := ysg) (by k_asm) N10 (List.mem_cons_self ..) (UpdF.tail (Ne.symm oG1) (UpdF.tail (Ne.symm oC1) (UpdF.head (ne_cons (Nat.ne_of_lt lt5) (ne_cons (Nat.ne_of_lt (Nat.lt_trans lt4 lt5)) x6r))))) (big_1 hv2l hnl2 (Nat.lt_of_lt_of_le hi3 (Nat.le_trans hwn (by decide))) he2) (big_2 hgl hgf hz) ?_
          intro h11 c11 F11 N11
          clear N10
          k_steps
          rename Fr _ _ _ _ => F12
          rw [hτ] at hb hyg
          exact TEnd.of F12 N11 (ri_end (n := c11) hX6 hoff2 d5c d4c (hvals2.append hyg) (by rw [List.length_append]; exact len_add hnl2 (filter_len z _) hz) (told_add hns2 hb) (fun p hp => List.mem_cons_of_mem _ (List.mem_cons_of_mem _ hp)))
        · rw [decide_eq_false hb]
          k_steps
          have hvals2 := hvK.1
          rename Fr _ _ _ _ => F12
          rw [hτ] at hb
          exact TEnd.of F12 N9 (ri_end (n := nn2) hX6 hoff2 d5c d4c hvals2 (len_keep hnl2) (told_skip hns2 hb) (fun p hp => List.mem_cons_of_mem _ hp))
      · rintro h' tk' m' news' F' N' ⟨hm', vals2, ns2, nn2, r5, r4, w5, w4, rfl, hr5, hr4, hvals2, hnl2, hns2⟩
        subst hm'
        have hvK : IntsAre vals2 ns2 ∧ True := ⟨hvals2, trivial⟩
        k_steps
        have hvals2 := hvK.1
        rename Fr _ _ _ _ => F12
        rename News _ _ _ _ => N12
        exact TEnd.of F12 N12 (rj_end (n := nn2) (by walk_at "my frame") hX5 hoff hr5 hr4 hvals2 (by simp at hnl2; omega) (told_next hσ hns2) (fun p hp => by
          rcases List.mem_cons.mp hp with rfl | hp
          · exact List.mem_cons_self ..
          · rcases List.mem_cons.mp hp with rfl | hp
            · exact List.mem_cons_of_mem _ (List.mem_cons_self ..)
            · rcases List.mem_cons.mp hp with rfl | hp
              · exact List.mem_cons_of_mem _ (List.mem_cons_of_mem _ (List.mem_cons_self ..))
              · exact List.mem_cons_of_mem _ (List.mem_cons_of_mem _ (List.mem_cons_of_mem _ (hXR _ hp)))))
    · rintro h' tk' m' news' F' N' ⟨hm', vals, ns, nn, q5, q4, v5, v4, rfl, hq5, hq4, hvals, hnl, hns⟩
      obtain ⟨u, rfl⟩ := hm'.form
      have htk : sg.take wvs.length = sg := by
        rw [hws.length, List.length_map, List.take_length]
      rw [htk] at hns
      have h06 : ∀ x ∈ ns, 0 ≤ x ∧ x < 6 := fun x hx => by
        obtain ⟨σ, _, e, _, h⟩ := (hns x).mp hx
        exact hits_lt hz h
      have hvK : IntsAre vals ns ∧ True := ⟨hvals, trivial⟩
      k_steps
      refine Halt.mk ?_
      have hvals := hvK.1
      rename News _ _ _ _ => N1
      rename Fr _ _ _ _ => F2
      refine set_of_led rfl F2 N1 (List.mem_cons_self ..) hvals h06 ?_
      intro S9 h9 k9 xs F9 N9 hS9 hx9
      clear N1 F2
      k_steps
      refine Halt.mk ?_
      refine sorted_set rfl (by k_asm) N9 hS9 ?_
      intro D10 h10 k10 vs10 ns10 c10 F10 N10 l10 hi10 hp10 ho10
      clear N9
      obtain ⟨hnd, hall⟩ := told_out (fits_ok true xs (let ⟨_, _, _, _, e⟩ := hS9; e)).2.2 hp10 hx9 h06 hns
      have hiK : IntsAre vs10 ns10 ∧ True := ⟨hi10, trivial⟩
      k_steps
      refine ret1N hret (by k_asm) (news_sub (by k_asm) (fun p hp => ?_)) (fun p hp => Nat.ne_of_lt (l10 p (List.mem_cons_of_mem _ (List.mem_cons_of_mem _ (List.mem_cons_of_mem _ (hnR p hp)))))) ⟨_, vs10, ns10, c10, rfl, List.mem_cons_self .., hiK.1, ho10, hnd, hall⟩
      rcases List.mem_cons.mp hp with rfl | hp
      · exact List.mem_cons_self ..
      · exact List.mem_cons_of_mem _ (List.mem_cons_of_mem _ (List.mem_cons_of_mem _ (List.mem_cons_of_mem _ (hnR p hp))))
end

section
open PyProof.Rows.LCg
theorem call_useL {w : World} {f : Addr} {vs : List Value} {l : Addr} {its : List Value} {news : Led} {D : Nat} {Out : Led → Value → Prop} (C : CallSpecL w f vs l its news D Out) {p : Program} {loose : List Str} {mean : ExcName → Option Value} {mg mb : Str → Option Value}
    {dp un : Nat} {gd : Option (List Code)} {cn : Str} {cs : Scope} {a : Addr} {ccd : Value} {cl : List (Str × Addr)} {outer : List Env} {A₀ : Around} {base h₀ : Heap} {L : Addr} {m : Str → Option Value} {s : Shared} {Q E : Value → Shared → Prop}
    (B : Below A₀ base outer h₀) (F : Fr h₀ L s.heap m) (X : (KK w.params).In h₀) (N : News h₀ L s.heap news) (T : Top p loose mean mg mb h₀) (hk : cs.kind = .function) (hl : base.IsList l its.toArray)
    (hd : dp + D < recursionLimit) (hu : un + 8 * D < cLine)
    (ret : ∀ r tl h' tk', Fr h₀ L h' m → News h₀ L h' (tl ++ news) → (∀ q ∈ news, ∀ p ∈ tl, q.1 ≠ p.1) → Out tl r → Q r { s with heap := h', toks := tk' }) :
    wpAny (model MyProg w) (ktrTop dp un gd cn cs L a ccd cl outer) (call (.ref f) vs) Q E s :=
  C p loose mean mg mb dp un gd cn cs a ccd cl outer A₀ base h₀ L m s Q E B F X N T hk hl hd hu ret
def toI (x : UInt64) : Int := Flt.toInt Float64.truncOf (Float64.mul x (Float64.ofInt 128))
def litOf (ms : List Int) : Lit := fun j => (toI (paintOf ms j).1, toI (paintOf ms j).2.1, toI (paintOf ms j).2.2)
def finI (x : UInt64) : Prop := Float64.isFinite (Float64.mul x (Float64.ofInt 128)) = true
def waysOf (ms : List Int) (z : Nat) : List Int := (List.range z).map (wayOf ms)
def sgM (z : Nat) (lt : Lit) : List (Nat → Int) := ((T0 z z).filter fun q => hasA (wordOf z (wgtOf lt q))).map (wgtOf lt)
def sideSign (here : Int) (there : Option Int) : Int := match there with
  | none => 0
  | some v => if Int.fmod (v - here) 8 = 0 then 0 else if Int.fmod (v - here) 16 < 8 then 1 else -1
def placeK (ms : List Int) (j : Nat) : Option Int := placeAt (paintOf ms j)
def sgL (z : Nat) (pl : Nat → Option Int) : List (Nat → Int) := ((List.range z).filterMap pl).map fun here m => sideSign here (pl m)
structure LawFacts (ms : List Int) (z : Nat) : Prop where
  fin : ∀ j, j < z → finI (paintOf ms j).1 ∧ finI (paintOf ms j).2.1 ∧ finI (paintOf ms j).2.2
  bnd : ∀ j, j < z → (0 ≤ (litOf ms j).1 ∧ (litOf ms j).1 ≤ 128) ∧ (0 ≤ (litOf ms j).2.1 ∧ (litOf ms j).2.1 ≤ 128) ∧ (0 ≤ (litOf ms j).2.2 ∧ (litOf ms j).2.2 ≤ 128)
  ok : ∀ j, j < z → PaintOk (paintOf ms j)
  one : ∀ x, ¬ (toldBy (waysOf ms z) 3 z (sgM z (litOf ms)) x ∧ toldBy (waysOf ms z) 2 z (sgL z (placeK ms)) x)
  all : ∀ x, (toldBy (waysOf ms z) 3 z (sgM z (litOf ms)) x ∨ toldBy (waysOf ms z) 2 z (sgL z (placeK ms)) x) ↔ ∃ k, k < z ∧ x = (k : Int) ∧ wayOf ms k < 2
/-- after the paints: the cell and the tables ahead of all else -/
theorem law_shape1 {h₀ h : Heap} {L c lc : Addr} {w o : Obj} {tl : Led} (N : News h₀ L h (tl ++ (lc, o) :: (c, w) :: (30, tabObj #[]) :: (37, tabObj #[]) :: [])) (ap : ∀ q ∈ (lc, o) :: (c, w) :: (30, tabObj #[]) :: (37, tabObj #[]) :: [], ∀ p ∈ tl, q.1 ≠ p.1)
    (n1 : ∀ p ∈ (c, w) :: (30, tabObj #[]) :: (37, tabObj #[]) :: [], lc ≠ p.1) :
    ∃ X, News h₀ L h ((c, w) :: (30, tabObj #[]) :: (37, tabObj #[]) :: X) ∧ (∀ p ∈ X, p.1 ≠ c ∧ p.1 ≠ 30 ∧ p.1 ≠ 37) ∧ (lc, o) ∈ X ∧ ∀ p ∈ tl, p ∈ X := by
  refine ⟨(lc, o) :: tl, news_sub N fun p hp => by simp at hp ⊢; grind, fun p hp => ?_, List.mem_cons_self .., fun p hp => List.mem_cons_of_mem _ hp⟩
  rcases List.mem_cons.mp hp with rfl | hp
  · exact ⟨n1 (c, w) (by simp), n1 (30, tabObj #[]) (by simp), n1 (37, tabObj #[]) (by simp)⟩
  · exact ⟨Ne.symm (ap (c, w) (by simp) p hp), Ne.symm (ap (30, tabObj #[]) (by simp) p hp), Ne.symm (ap (37, tabObj #[]) (by simp) p hp)⟩
theorem ne_cells {L : Addr} (l0 : @LT.lt Nat _ 30 L ∧ @LT.lt Nat _ 37 L) {w : Obj} {X : Led} (hX : ∀ p ∈ X, p.1 ≠ L + 1 ∧ p.1 ≠ 30 ∧ p.1 ≠ 37) : ∀ p ∈ (30, tabObj #[]) :: (37, w) :: X, p.1 ≠ L + 1 :=
  ne_cons (Nat.ne_of_lt (Nat.lt_succ_of_lt l0.1)) (ne_cons (Nat.ne_of_lt (Nat.lt_succ_of_lt l0.2)) fun p hp => (hX p hp).1)
def sel3 (c : UInt64 × UInt64 × UInt64) (j : Nat) : UInt64 := if j = 0 then c.1 else if j = 1 then c.2.1 else c.2.2
theorem sel3_val {c : UInt64 × UInt64 × UInt64} {t0 t1 t2 : Tok} {j : Nat} {v : Value} (h : #[Value.float c.1 t0, .float c.2.1 t1, .float c.2.2 t2][j]? = some v) : ∃ t, v = .float (sel3 c j) t := by
  match j, h with
  | 0, h => exact ⟨t0, (Option.some.inj h).symm⟩
  | 1, h => exact ⟨t1, (Option.some.inj h).symm⟩
  | 2, h => exact ⟨t2, (Option.some.inj h).symm⟩
theorem sel3_fin {c : UInt64 × UInt64 × UInt64} (h : finI c.1 ∧ finI c.2.1 ∧ finI c.2.2) (j : Nat) : Float64.isFinite (Float64.mul (sel3 c j) (Float64.ofInt 128)) = true := by
  unfold sel3
  split
  · exact h.1
  · split
    · exact h.2.1
    · exact h.2.2
/-- the lights read so far -/
def GJ (base : Led) (lt : Lit) (i : Nat) (ys : List Value) (led : Led) : Prop :=
  ∃ (tl : Led) (as : List Addr), led = tl ++ base ∧ (∀ q ∈ base, ∀ p ∈ tl, q.1 ≠ p.1) ∧ ys = as.map Value.ref ∧ as.length = i ∧ ∀ j, j < i → ∃ a nn t0 t1 t2, as[j]? = some a ∧ (a, W.listOf #[.int (lt j).1 t0, .int (lt j).2.1 t1, .int (lt j).2.2 t2] nn) ∈ tl
theorem GJ.start {base : Led} {lt : Lit} : GJ base lt 0 [] base := ⟨[], [], rfl, (fun _ _ p hp => nomatch hp), rfl, rfl, fun j h => absurd h (Nat.not_lt_zero _)⟩
theorem GJ.step {base led all : Led} {lt : Lit} {i n : Nat} {ys : List Value} {I C D D2 : Addr} {oI oC oD : Obj} {t0 t1 t2 : Tok} (hJ : GJ base lt i ys led) (ea : all = (D2, W.listOf #[.int (lt i).1 t0, .int (lt i).2.1 t1, .int (lt i).2.2 t2] n) :: (I, oI) :: (C, oC) :: (D, oD) :: led)
    (o : I ≠ D2 ∧ C ≠ D2 ∧ D ≠ D2 ∧ Off1 D2 led) (off : Off3 I C D led) :
    ∃ led', (∀ p ∈ (I, oI) :: (C, oC) :: (D, oD) :: led', p ∈ all) ∧ Off3 I C D led' ∧ GJ base lt (i + 1) (ys ++ [.ref D2]) led' := by
  obtain ⟨tl, as, rfl, ap, rfl, hl, hj⟩ := hJ
  have on := ne_of_off1 o.2.2.2
  refine ⟨(D2, W.listOf #[.int (lt i).1 t0, .int (lt i).2.1 t1, .int (lt i).2.2 t2] n) :: (tl ++ base), ?_, ?_, (D2, W.listOf #[.int (lt i).1 t0, .int (lt i).2.1 t1, .int (lt i).2.2 t2] n) :: tl, as ++ [D2], rfl, ?_, by simp, by simp [hl], ?_⟩
  · intro p hp
    rw [ea]
    simp only [List.mem_cons] at hp ⊢
    grind
  · refine Off3.of fun p hp => ?_
    rcases List.mem_cons.mp hp with rfl | hp
    · exact ⟨Ne.symm o.1, Ne.symm o.2.1, Ne.symm o.2.2.1⟩
    · exact Off3.mem off p hp
  · intro q hq p hp
    rcases List.mem_cons.mp hp with rfl | hp
    · exact on q (List.mem_append_right _ hq)
    · exact ap q hq p hp
  · intro j hji
    by_cases h : j < i
    · obtain ⟨a, nn, x0, x1, x2, e1, e2⟩ := hj j h
      exact ⟨a, nn, x0, x1, x2, by rw [List.getElem?_append_left (by omega)]; exact e1, List.mem_cons_of_mem _ e2⟩
    · have e : j = i := by lia
      subst e
      exact ⟨D2, n, t0, t1, t2, by rw [← hl]; simp, List.mem_cons_self ..⟩
theorem three_toI {c : UInt64 × UInt64 × UInt64} {ys : List Value} (hl : ys.length = 3) (h : ∀ i y, ys[i]? = some y → ∃ t, y = Value.int (toI (sel3 c i)) t) : ∃ t0 t1 t2, ys = [.int (toI c.1) t0, .int (toI c.2.1) t1, .int (toI c.2.2) t2] := by
  match ys, hl with
  | [a, b, d], _ =>
    obtain ⟨t0, e0⟩ := h 0 a rfl
    obtain ⟨t1, e1⟩ := h 1 b rfl
    obtain ⟨t2, e2⟩ := h 2 d rfl
    exact ⟨t0, t1, t2, by rw [e0, e1, e2]; rfl⟩
/-- before _law_mixes: the tables apart -/
theorem law_shape2 {h₀ h : Heap} {L D lw c : Addr} {od ow oc : Obj} {tl X1 : Led} (N : News h₀ L h ((D, od) :: (tl ++ (lw, ow) :: (c, oc) :: (30, tabObj #[]) :: (37, tabObj #[]) :: X1))) (oD : Off1 D (tl ++ (lw, ow) :: (c, oc) :: (30, tabObj #[]) :: (37, tabObj #[]) :: X1))
    (ap : ∀ q ∈ (lw, ow) :: (c, oc) :: (30, tabObj #[]) :: (37, tabObj #[]) :: X1, ∀ p ∈ tl, q.1 ≠ p.1) (o3 : ∀ p ∈ (30, tabObj #[]) :: (37, tabObj #[]) :: X1, p.1 ≠ lw) (hc : c ≠ 30 ∧ c ≠ 37) (hX : ∀ p ∈ X1, p.1 ≠ c ∧ p.1 ≠ 30 ∧ p.1 ≠ 37) :
    ∃ rest, (∀ p ∈ (30, tabObj #[]) :: (37, tabObj #[]) :: rest, p ∈ (D, od) :: (tl ++ (lw, ow) :: (c, oc) :: (30, tabObj #[]) :: (37, tabObj #[]) :: X1)) ∧ (∀ p ∈ rest, p.1 ≠ 30) ∧ (∀ p ∈ rest, p.1 ≠ 37) ∧ (D, od) ∈ rest ∧ (∀ p ∈ tl, p ∈ rest) ∧ (lw, ow) ∈ rest ∧ (c, oc) ∈ rest ∧ ∀ p ∈ X1, p ∈ rest := by
  have oD := ne_of_off1 oD
  have key : ∀ p ∈ (D, od) :: (tl ++ (lw, ow) :: (c, oc) :: X1), p.1 ≠ 30 ∧ p.1 ≠ 37 := fun p hp => by
    rcases List.mem_cons.mp hp with rfl | hp
    · exact ⟨Ne.symm (oD (30, tabObj #[]) (by simp)), Ne.symm (oD (37, tabObj #[]) (by simp))⟩
    · rcases List.mem_append.mp hp with hp | hp
      · exact ⟨Ne.symm (ap (30, tabObj #[]) (by simp) p hp), Ne.symm (ap (37, tabObj #[]) (by simp) p hp)⟩
      · rcases List.mem_cons.mp hp with rfl | hp
        · exact ⟨Ne.symm (o3 (30, tabObj #[]) (by simp)), Ne.symm (o3 (37, tabObj #[]) (by simp))⟩
        · rcases List.mem_cons.mp hp with rfl | hp
          · exact hc
          · exact (hX p hp).2
  exact ⟨(D, od) :: (tl ++ (lw, ow) :: (c, oc) :: X1), fun p hp => by simp only [List.mem_cons, List.mem_append] at hp ⊢; grind, fun p hp => (key p hp).1, fun p hp => (key p hp).2, by simp, fun p hp => by simp [hp], by simp, by simp, fun p hp => by simp [hp]⟩
theorem cell_ne {L : Addr} (l0 : @LT.lt Nat _ 30 L ∧ @LT.lt Nat _ 37 L) : L + 1 ≠ 30 ∧ L + 1 ≠ 37 := ⟨Nat.ne_of_gt (Nat.lt_succ_of_lt l0.1), Nat.ne_of_gt (Nat.lt_succ_of_lt l0.2)⟩
theorem mixes_words (z : Nat) (lt : Lit) : ((T0 z z).map (mixWord z lt)).filter hasA = (sgM z lt).map (wordOf z) := by
  unfold sgM
  rw [List.filter_map, List.map_map]
  rfl
theorem side_sign (here : Int) (there : Option Int) : signOf (sideSign here there) = sideOf here there := by
  cases there with
  | none => rfl
  | some v =>
    unfold sideSign sideOf
    dsimp only
    by_cases h : Int.fmod (v - here) 8 = 0
    · rw [if_pos h, if_pos h]; rfl
    · rw [if_neg h, if_neg h]
      by_cases h2 : Int.fmod (v - here) 16 < 8
      · rw [if_pos h2, if_pos h2]; rfl
      · rw [if_neg h2, if_neg h2]; rfl
theorem lines_words (z : Nat) (pl : Nat → Option Int) : ((List.range z).filterMap pl).map (lineWord z pl) = (sgL z pl).map (wordOf z) := by
  unfold sgL
  rw [List.map_map]
  apply List.map_congr_left
  intro here _
  show lineWord z pl here = wordOf z (fun m => sideSign here (pl m))
  unfold lineWord wordOf
  congr 1
  apply List.map_congr_left
  intro j _
  exact (side_sign here (pl j)).symm
theorem iAt_ways {ms : List Int} {z k : Nat} (h : k < z) : iAt (waysOf ms z) k = wayOf ms k := by
  unfold iAt waysOf
  simp [List.getD, h]
theorem way_b (ms : List Int) (k : Nat) : 0 ≤ wayOf ms k ∧ wayOf ms k < 4 ∧ (k = 2 → wayOf ms k < 2) := by
  unfold wayOf
  split
  · have := fmod_b (Int.fdiv (iAt ms k) 320) (n := 2) (by decide)
    omega
  · have := fmod_b (Int.fdiv (iAt ms k) 320) (n := 4) (by decide)
    omega
theorem ways_b {ms : List Int} {z : Nat} : ∀ k, k < z → 0 ≤ iAt (waysOf ms z) k ∧ iAt (waysOf ms z) k < 4 := fun k hk => by
  rw [iAt_ways hk]; exact ⟨(way_b ms k).1, (way_b ms k).2.1⟩
theorem ways_len {ms : List Int} {z : Nat} : (waysOf ms z).length = z := by unfold waysOf; simp
theorem sgM_len {z : Nat} {lt : Lit} (hz : z = 4 ∨ z = 6) : (sgM z lt).length ≤ 100 := by
  unfold sgM
  rw [List.length_map]
  exact Nat.le_trans (List.length_filter_le ..) (Nat.le_trans (T0_small hz) (by decide))
theorem sgL_len {z : Nat} {pl : Nat → Option Int} (hz : z = 4 ∨ z = 6) : (sgL z pl).length ≤ 100 := by
  unfold sgL
  rw [List.length_map]
  exact Nat.le_trans (List.length_filterMap_le ..) (by simp; omega)
theorem told_z {ways : List Int} {barred : Int} {z : Nat} {sg : List (Nat → Int)} {x : Int} (h : toldBy ways barred z sg x) : x ∈ (List.range z).map Int.ofNat := by
  obtain ⟨σ, _, e, _, h⟩ := h
  obtain ⟨k, hk, rfl⟩ := List.mem_map.mp h.2
  exact List.mem_map.mpr ⟨k, (List.mem_filter.mp hk).1, rfl⟩
theorem told_len {ways : List Int} {barred : Int} {z : Nat} {sg : List (Nat → Int)} {ns : List Int} (hd : ns.Nodup) (ht : ∀ x, x ∈ ns ↔ toldBy ways barred z sg x) : ns.length ≤ z := by
  have := List.Nodup.length_le_of_subset hd (l₂ := (List.range z).map Int.ofNat) fun x hx => told_z ((ht x).mp hx)
  simpa using this
theorem told_small {w1 w2 : List Int} {b1 b2 : Int} {z : Nat} {g1 g2 : List (Nat → Int)} {ns1 ns2 : List Int} (hz : z = 4 ∨ z = 6) (hd1 : ns1.Nodup) (hd2 : ns2.Nodup)
    (ht1 : ∀ x, x ∈ ns1 ↔ toldBy w1 b1 z g1 x) (ht2 : ∀ x, x ∈ ns2 ↔ toldBy w2 b2 z g2 x) : ns1.length + ns2.length ≤ sizeLine ∧ (ns1 ++ ns2).length < 64 := by
  have a := told_len hd1 ht1
  have b := told_len hd2 ht2
  rw [sizeLine_eq, List.length_append]
  omega
theorem eq_of_sorted : ∀ {l1 l2 : List Int}, l1.Perm l2 → l1.Pairwise (· ≤ ·) → l2.Pairwise (· ≤ ·) → l1 = l2
  | [], l2, hp, _, _ => (List.nil_perm.mp hp).symm
  | a :: r, [], hp, _, _ => absurd hp.length_eq (by simp)
  | a :: r, b :: q, hp, h1, h2 => by
    have hab : a = b := by
      have a1 : a ∈ b :: q := hp.mem_iff.mp (List.mem_cons_self ..)
      have b1 : b ∈ a :: r := hp.mem_iff.mpr (List.mem_cons_self ..)
      have k1 : b ≤ a := by
        rcases List.mem_cons.mp a1 with e | h
        · exact Int.le_of_eq e.symm
        · exact (List.pairwise_cons.mp h2).1 a h
      have k2 : a ≤ b := by
        rcases List.mem_cons.mp b1 with e | h
        · exact Int.le_of_eq e.symm
        · exact (List.pairwise_cons.mp h1).1 b h
      exact Int.le_antisymm k2 k1
    subst hab
    rw [eq_of_sorted (List.perm_cons a |>.mp hp) (List.pairwise_cons.mp h1).2 (List.pairwise_cons.mp h2).2]
theorem lists_eq {ms : List Int} {z : Nat} {w : List Int} {g1 g2 : List (Nat → Int)} {ns1 ns2 ns : List Int} (hp : ns.Perm (ns1 ++ ns2)) (ho : ns.Pairwise (· ≤ ·)) (hd1 : ns1.Nodup) (hd2 : ns2.Nodup)
    (ht1 : ∀ x, x ∈ ns1 ↔ toldBy w 3 z g1 x) (ht2 : ∀ x, x ∈ ns2 ↔ toldBy w 2 z g2 x) (one : ∀ x, ¬ (toldBy w 3 z g1 x ∧ toldBy w 2 z g2 x)) (all : ∀ x, (toldBy w 3 z g1 x ∨ toldBy w 2 z g2 x) ↔ ∃ k, k < z ∧ x = (k : Int) ∧ wayOf ms k < 2) :
    ns = ((List.range z).filter fun j => decide (wayOf ms j < 2)).map fun j : Nat => (j : Int) := by
  have hd : (ns1 ++ ns2).Nodup := by
    rw [List.nodup_append]
    exact ⟨hd1, hd2, fun a ha b hb e => one a ⟨(ht1 a).mp ha, (ht2 a).mp (e ▸ hb)⟩⟩
  have hs : (((List.range z).filter fun j => decide (wayOf ms j < 2)).map fun j : Nat => (j : Int)).Pairwise (· < ·) := by
    rw [List.pairwise_map]
    exact (List.Pairwise.filter _ List.pairwise_lt_range).imp fun h => by omega
  have hdt : (((List.range z).filter fun j => decide (wayOf ms j < 2)).map fun j : Nat => (j : Int)).Nodup := hs.imp fun h => by omega
  refine eq_of_sorted (hp.trans ?_) ho (hs.imp fun h => by omega)
  refine (List.perm_ext_iff_of_nodup hd hdt).mpr fun x => ?_
  rw [List.mem_append, ht1, ht2, all]
  constructor
  · rintro ⟨k, hk, rfl, h⟩
    exact List.mem_map.mpr ⟨k, List.mem_filter.mpr ⟨List.mem_range.mpr hk, decide_eq_true h⟩, rfl⟩
  · intro h
    obtain ⟨k, hk, rfl⟩ := List.mem_map.mp h
    obtain ⟨h1, h2⟩ := List.mem_filter.mp hk
    exact ⟨k, List.mem_range.mp h1, rfl, of_decide_eq_true h2⟩
end

section
/-! Minty's lemma for vectors at sixteenths of a turn -/
theorem max_upto (P : Nat → Prop) : ∀ n, (∃ b, b ≤ n ∧ P b) → ∃ b, b ≤ n ∧ P b ∧ ∀ x, x ≤ n → P x → x ≤ b
  | 0, ⟨b, hb, h⟩ => ⟨b, hb, h, fun x hx _ => by (first | lia | omega)⟩
  | n + 1, ⟨b, hb, h⟩ => by
    by_cases hp : P (n + 1)
    · exact ⟨n + 1, Nat.le_refl _, hp, fun x hx _ => hx⟩
    · have hbn : b ≤ n := by
        rcases Nat.lt_or_ge n b with h1 | h1
        · have : b = n + 1 := by (first | lia | omega)
          subst this; exact absurd h hp
        · exact h1
      obtain ⟨b', h1, h2, h3⟩ := max_upto P n ⟨b, hbn, h⟩
      refine ⟨b', by (first | lia | omega), h2, fun x hx hx2 => ?_⟩
      by_cases e : x = n + 1
      · subst e; exact absurd hx2 hp
      · exact h3 x (by (first | lia | omega)) hx2
theorem min_upto (P : Nat → Prop) (n : Nat) (h : ∃ b, b ≤ n ∧ P b) : ∃ b, b ≤ n ∧ P b ∧ ∀ x, x ≤ n → P x → b ≤ x := by
  obtain ⟨b, hb, hp⟩ := h
  obtain ⟨b', h1, h2, h3⟩ := max_upto (fun x => P (n - x)) n ⟨n - b, by (first | lia | omega), by show P (n - (n - b)); rw [show n - (n - b) = b by (first | lia | omega)]; exact hp⟩
  refine ⟨n - b', by (first | lia | omega), h2, fun x hx hx2 => ?_⟩
  have := h3 (n - x) (by (first | lia | omega)) (by show P (n - (n - x)); rw [show n - (n - x) = x by (first | lia | omega)]; exact hx2)
  (first | lia | omega)
/-- the sign of a turn of d sixteenths -/
def sg16 (d : Int) : Int := if d % 16 = 0 ∨ d % 16 = 8 then 0 else if d % 16 < 8 then 1 else -1
theorem sg_mod {a b : Int} (h : a % 16 = b % 16) : sg16 a = sg16 b := by unfold sg16; rw [h]
theorem sg_is {x d : Int} (h : (0 < x ↔ 1 ≤ d % 16 ∧ d % 16 ≤ 7) ∧ (x < 0 ↔ 9 ≤ d % 16)) : (0 < x ↔ sg16 d = 1) ∧ (x < 0 ↔ sg16 d = -1) := by
  rw [h.1, h.2]
  unfold sg16
  split
  · (first | lia | omega)
  · split <;> (first | lia | omega)
abbrev pm : List Int := [1, -1]
theorem pm_of {s : Int} (h : s = 1 ∨ s = -1) : s ∈ pm := by rcases h with rfl | rfl <;> decide
set_option synthInstance.maxHeartbeats 400000 in
set_option synthInstance.maxSize 10000 in
theorem tab_bg : ∀ r, r < 16 → ∀ q, q < 16 → ∀ se ∈ pm, ∀ s ∈ pm, ∀ t ∈ pm, 1 ≤ ((r : Nat) - 4 * s + 4 * se : Int) % 16 → ((r : Nat) - 4 * s + 4 * se : Int) % 16 ≤ 7 → 9 ≤ ((q : Nat) - 4 * t + 4 * se : Int) % 16 → ((q : Nat) - 4 * t + 4 * se : Int) % 16 - ((r : Nat) - 4 * s + 4 * se : Int) % 16 < 8 →
    sg16 ((q : Nat) - (r : Nat) : Int) * (se * s * t) = se ∧ sg16 (-(q : Nat) : Int) * (se * s * t) = s ∧ sg16 ((r : Nat) : Int) * (se * s * t) = t := by decide +kernel
set_option synthInstance.maxHeartbeats 400000 in
set_option synthInstance.maxSize 10000 in
theorem tab_8 : ∀ r, r < 16 → ∀ q, q < 16 → ∀ se ∈ pm, ∀ s ∈ pm, ((r : Nat) - 4 * s + 4 * se : Int) % 16 = 8 → ((q : Nat) : Int) % 8 ≠ 0 →
    (se * sg16 ((q : Nat) - (r : Nat) : Int)) ∈ pm ∧ sg16 ((q : Nat) - (r : Nat) : Int) * (se * sg16 ((q : Nat) - (r : Nat) : Int)) = se ∧ sg16 (-(q : Nat) : Int) * (se * sg16 ((q : Nat) - (r : Nat) : Int)) = s ∧ sg16 ((r : Nat) : Int) = 0 := by decide +kernel
set_option synthInstance.maxHeartbeats 400000 in
set_option synthInstance.maxSize 10000 in
theorem tab_max : ∀ r, r < 16 → ∀ se ∈ pm, ∀ s ∈ pm, 1 ≤ ((r : Nat) - 4 * s + 4 * se : Int) % 16 → ((r : Nat) - 4 * s + 4 * se : Int) % 16 ≤ 7 → sg16 (-(r : Nat) : Int) ≠ 0 ∧ ∀ q, q < 16 → ∀ t ∈ pm,
    (((q : Nat) - 4 * t + 4 * se : Int) % 16 ≤ ((r : Nat) - 4 * s + 4 * se : Int) % 16 ∨ ((r : Nat) - 4 * s + 4 * se : Int) % 16 + 8 ≤ ((q : Nat) - 4 * t + 4 * se : Int) % 16) → 0 ≤ sg16 ((q : Nat) - (r : Nat) : Int) * (-s * t) := by decide +kernel
set_option synthInstance.maxHeartbeats 400000 in
set_option synthInstance.maxSize 10000 in
theorem tab_min : ∀ r, r < 16 → ∀ se ∈ pm, ∀ s ∈ pm, 9 ≤ ((r : Nat) - 4 * s + 4 * se : Int) % 16 → sg16 (-(r : Nat) : Int) ≠ 0 ∧ ∀ q, q < 16 → ∀ t ∈ pm,
    (((q : Nat) - 4 * t + 4 * se : Int) % 16 = 0 ∨ ((r : Nat) - 4 * s + 4 * se : Int) % 16 ≤ ((q : Nat) - 4 * t + 4 * se : Int) % 16) → 0 ≤ sg16 ((q : Nat) - (r : Nat) : Int) * (s * t) := by decide +kernel
set_option synthInstance.maxHeartbeats 400000 in
set_option synthInstance.maxSize 10000 in
theorem tab_zero : ∀ r, r < 16 → ∀ se ∈ pm, ((r : Nat) : Int) % 8 ≠ 0 → (se * sg16 (-(r : Nat) : Int)) ∈ pm ∧ sg16 (-(r : Nat) : Int) ≠ 0 ∧ ∀ q, q < 16 → ∀ t ∈ pm,
    ((q : Nat) - 4 * t + 4 * se : Int) % 16 = 0 → 0 ≤ sg16 ((q : Nat) - (r : Nat) : Int) * (se * sg16 (-(r : Nat) : Int) * t) := by decide +kernel
theorem pm_cases {s : Int} (h : s ∈ pm) : s = 1 ∨ s = -1 := by simpa using h
theorem sgn_eq {x S T v : Int} (hx : (0 < x ↔ S = 1) ∧ (x < 0 ↔ S = -1)) (hT : T = 1 ∨ T = -1) (h : S * T = v) : (v = 1 → 0 < T * x) ∧ (v = -1 → T * x < 0) := by
  rcases hT with rfl | rfl <;> (first | lia | omega)
theorem sgn_ge {x S T : Int} (hx : (0 < x ↔ S = 1) ∧ (x < 0 ↔ S = -1)) (hT : T = 1 ∨ T = -1) (h : 0 ≤ S * T) : 0 ≤ T * x := by
  rcases hT with rfl | rfl <;> (first | lia | omega)
theorem sgn_ne {x S : Int} (hx : (0 < x ↔ S = 1) ∧ (x < 0 ↔ S = -1)) (h : S ≠ 0) (hS : S = 0 ∨ S = 1 ∨ S = -1) : x ≠ 0 := by (first | lia | omega)
theorem sg_cases (d : Int) : sg16 d = 0 ∨ sg16 d = 1 ∨ sg16 d = -1 := by
  unfold sg16
  split
  · exact .inl rfl
  · split
    · exact .inr (.inl rfl)
    · exact .inr (.inr rfl)
theorem pm_mul {s t : Int} (h : s = 1 ∨ s = -1) (h2 : t = 1 ∨ t = -1) : s * t = 1 ∨ s * t = -1 := by
  rcases h with rfl | rfl <;> rcases h2 with rfl | rfl <;> decide
theorem way_in {w v y : Int} (hw : v = 1 ∧ (w = 0 ∨ w = 2) ∨ v = -1 ∧ (w = 1 ∨ w = 2)) (h : (v = 1 → 0 < y) ∧ (v = -1 → y < 0)) : (w = 0 → 0 ≤ y) ∧ (w = 1 → y ≤ 0) ∧ (w = 3 → y = 0) := by (first | lia | omega)
theorem way_e {w v y : Int} (hw : v = 1 ∧ w = 0 ∨ v = -1 ∧ w = 1) (h : (v = 1 → 0 < y) ∧ (v = -1 → y < 0)) : ((w = 0 → 0 ≤ y) ∧ (w = 1 → y ≤ 0) ∧ (w = 3 → y = 0)) ∧ y ≠ 0 := by (first | lia | omega)
theorem way_pm {v : Int} {p q : Prop} (h : v = 1 ∧ p ∨ v = -1 ∧ q) : v = 1 ∨ v = -1 := h.elim (fun h => .inl h.1) fun h => .inr h.1
theorem rel_of (a e : Int) : ∃ r : Nat, r < 16 ∧ (a - e) % 16 = (r : Int) := ⟨((a - e) % 16).toNat, by (first | lia | omega), by (first | lia | omega)⟩
theorem off_of {a e s se : Int} {r : Nat} (h : (a - e) % 16 = (r : Int)) : (a - e - 4 * s + 4 * se) % 16 = ((r : Nat) - 4 * s + 4 * se : Int) % 16 := by (first | lia | omega)
theorem dif_of {a b e : Int} {r q : Nat} (h : (a - e) % 16 = (r : Int)) (h2 : (b - e) % 16 = (q : Int)) : sg16 (b - a) = sg16 ((q : Nat) - (r : Nat) : Int) := sg_mod (by (first | lia | omega))
theorem neg_of {a e : Int} {r : Nat} (h : (a - e) % 16 = (r : Int)) : sg16 (e - a) = sg16 (-(r : Nat) : Int) := sg_mod (by (first | lia | omega))
theorem pos_of {a e : Int} {r : Nat} (h : (a - e) % 16 = (r : Int)) : sg16 (a - e) = sg16 ((r : Nat) : Int) := sg_mod (by (first | lia | omega))
theorem par_of {a e : Int} {r : Nat} (h : (a - e) % 16 = (r : Int)) (h2 : (a - e) % 8 ≠ 0) : ((r : Nat) : Int) % 8 ≠ 0 := by (first | lia | omega)
theorem off_self {e s se : Int} : (e - e - 4 * s + 4 * se) % 16 = (4 * se - 4 * s) % 16 := by (first | lia | omega)
theorem three_zero (T : Int) {w x : Int} (h : x = 0) : (w = 0 → 0 ≤ T * x) ∧ (w = 1 → T * x ≤ 0) ∧ (w = 3 → T * x = 0) := by
  rw [h, Int.mul_zero]
  exact ⟨fun _ => Int.le_refl _, fun _ => Int.le_refl _, fun _ => rfl⟩
/-- the weights of a triple -/
def W3 (X : Nat → Nat → Int) (a b d m : Nat) : Int := if m = a then X b d else if m = b then X d a else if m = d then X a b else 0
/-- lamp m may be used with sign s -/
def May (way : Nat → Int) (on : Nat → Prop) (z m : Nat) (s : Int) : Prop := m < z ∧ on m ∧ (s = 1 ∧ (way m = 0 ∨ way m = 2) ∨ s = -1 ∧ (way m = 1 ∨ way m = 2))
section
variable {z : Nat} {c way : Nat → Int} {on : Nat → Prop} {X : Nat → Nat → Int} {e : Nat} {se : Int}
theorem ok_line (h0 : ∀ j k, ¬ (on j ∧ on k) → X j k = 0) {h : Nat} {T : Int} (key : ∀ m s, May way on z m s → 0 ≤ T * s * X h m) : okWay way 2 z (fun m => T * X h m) := fun m hm => by
  by_cases hon : on m
  · refine ⟨fun hw => ?_, fun hw => ?_, fun hw => ?_⟩
    · have := key m 1 ⟨hm, hon, .inl ⟨rfl, .inl hw⟩⟩
      rw [Int.mul_one] at this; exact this
    · have := key m (-1) ⟨hm, hon, .inr ⟨rfl, .inl hw⟩⟩
      rw [Int.mul_neg_one, Int.neg_mul] at this
      show T * X h m ≤ 0
      (first | lia | omega)
    · have k1 := key m 1 ⟨hm, hon, .inl ⟨rfl, .inr hw⟩⟩
      have k2 := key m (-1) ⟨hm, hon, .inr ⟨rfl, .inr hw⟩⟩
      rw [Int.mul_one] at k1
      rw [Int.mul_neg_one, Int.neg_mul] at k2
      show T * X h m = 0
      (first | lia | omega)
  · have : X h m = 0 := h0 _ _ fun h => hon h.2
    show (_ → 0 ≤ T * X h m) ∧ (_ → T * X h m ≤ 0) ∧ (_ → T * X h m = 0)
    rw [this, Int.mul_zero]
    exact ⟨fun _ => Int.le_refl _, fun _ => Int.le_refl _, fun _ => rfl⟩
/-- a mix is in order if its three weights are -/
theorem ok_mix {a b d : Nat} {T : Int} (key : ∀ m, m = a ∨ m = b ∨ m = d → (way m = 0 → 0 ≤ T * W3 X a b d m) ∧ (way m = 1 → T * W3 X a b d m ≤ 0) ∧ (way m = 3 → T * W3 X a b d m = 0)) : okWay way 3 z (fun m => T * W3 X a b d m) := fun m _ => by
  by_cases h : m = a ∨ m = b ∨ m = d
  · exact key m h
  · have : W3 X a b d m = 0 := by unfold W3; rw [if_neg fun e => h (.inl e), if_neg fun e => h (.inr (.inl e)), if_neg fun e => h (.inr (.inr e))]
    show (_ → 0 ≤ T * W3 X a b d m) ∧ (_ → T * W3 X a b d m ≤ 0) ∧ (_ → T * W3 X a b d m = 0)
    rw [this, Int.mul_zero]
    exact ⟨fun _ => Int.le_refl _, fun _ => Int.le_refl _, fun _ => rfl⟩
theorem W3_a {a b d : Nat} : W3 X a b d a = X b d := by unfold W3; rw [if_pos rfl]
theorem W3_b {a b d : Nat} (h : b ≠ a) : W3 X a b d b = X d a := by unfold W3; rw [if_neg h, if_pos rfl]
theorem W3_d {a b d : Nat} (h : d ≠ a) (h2 : d ≠ b) : W3 X a b d d = X a b := by unfold W3; rw [if_neg h, if_neg h2, if_pos rfl]
/-- the offset of lamp m, taken with sign s, from the lamp e, taken with sign se -/
def off (c : Nat → Int) (e : Nat) (se : Int) (m : Nat) (s : Int) : Int := (c m - c e - 4 * s + 4 * se) % 16
abbrev Mix (way : Nat → Int) (X : Nat → Nat → Int) (z e : Nat) : Prop := ∃ a b d T, a < z ∧ b < z ∧ d < z ∧ a ≠ b ∧ a ≠ d ∧ b ≠ d ∧ (T = 1 ∨ T = -1) ∧ okWay way 3 z (fun m => T * W3 X a b d m) ∧ W3 X a b d e ≠ 0
abbrev Line (way : Nat → Int) (on : Nat → Prop) (X : Nat → Nat → Int) (z e : Nat) : Prop := ∃ h T, h < z ∧ on h ∧ (T = 1 ∨ T = -1) ∧ okWay way 2 z (fun m => T * X h m) ∧ X h e ≠ 0
/-- the sign of X tells the angle -/
abbrev SignX (c : Nat → Int) (on : Nat → Prop) (X : Nat → Nat → Int) : Prop := ∀ j k, on j → on k → (0 < X j k ↔ 1 ≤ (c k - c j) % 16 ∧ (c k - c j) % 16 ≤ 7) ∧ (X j k < 0 ↔ 9 ≤ (c k - c j) % 16)
abbrev Way01 (way : Nat → Int) (e : Nat) (se : Int) : Prop := se = 1 ∧ way e = 0 ∨ se = -1 ∧ way e = 1
theorem May.ne (he : Way01 way e se) {m : Nat} {s : Int} (hm : May way on z m s) (h : off c e se m s ≠ 0) : m ≠ e := fun h1 => by
  subst h1
  unfold off at h
  obtain ⟨_, _, hm⟩ := hm
  rcases he with ⟨rfl, he⟩ | ⟨rfl, he⟩ <;> rcases hm with ⟨rfl, hm⟩ | ⟨rfl, hm⟩ <;> (first | lia | omega)
theorem mix_bg (hX : SignX c on X) (hez : e < z) (hon : on e) (he : Way01 way e se) {m n : Nat} {s t : Int} (hm : May way on z m s) (hn : May way on z n t) (hb : 1 ≤ off c e se m s ∧ off c e se m s ≤ 7) (hg : 9 ≤ off c e se n t) (hd : off c e se n t - off c e se m s < 8) : Mix way X z e := by
  have n1 : m ≠ e := hm.ne he (c := c) (fun h => by rw [h] at hb; exact absurd hb.1 (by decide))
  have n2 : n ≠ e := hn.ne he (c := c) (fun h => by rw [h] at hg; exact absurd hg (by decide))
  have n3 : m ≠ n := fun h => by
    subst h
    obtain ⟨_, _, hm⟩ := hm
    obtain ⟨_, _, hn⟩ := hn
    unfold off at hb hg hd
    rcases way_pm hm with rfl | rfl <;> rcases way_pm hn with rfl | rfl <;> (first | lia | omega)
  obtain ⟨hmz, hmo, hm⟩ := hm
  obtain ⟨hnz, hno, hn⟩ := hn
  obtain ⟨r, hr, er⟩ := rel_of (c m) (c e)
  obtain ⟨q, hq, eq⟩ := rel_of (c n) (c e)
  unfold off at hb hg hd
  rw [off_of er] at hb hd
  rw [off_of eq] at hg hd
  obtain ⟨t1, t2, t3⟩ := tab_bg r hr q hq se (pm_of (way_pm he)) s (pm_of (way_pm hm)) t (pm_of (way_pm hn)) hb.1 hb.2 hg hd
  rw [← dif_of er eq] at t1
  rw [← neg_of eq] at t2
  rw [← pos_of er] at t3
  have hT := pm_mul (pm_mul (way_pm he) (way_pm hm)) (way_pm hn)
  have k1 := way_e he (sgn_eq (sg_is (hX m n hmo hno)) hT t1)
  refine ⟨e, m, n, se * s * t, hez, hmz, hnz, Ne.symm n1, Ne.symm n2, n3, hT, ok_mix fun x hx => ?_, ?_⟩
  · rcases hx with rfl | rfl | rfl
    · rw [W3_a]; exact k1.1
    · rw [W3_b n1]; exact way_in hm (sgn_eq (sg_is (hX n e hno hon)) hT t2)
    · rw [W3_d n2 (Ne.symm n3)]; exact way_in hn (sgn_eq (sg_is (hX e m hon hmo)) hT t3)
  · rw [W3_a]; exact fun h => k1.2 (by rw [h, Int.mul_zero])
theorem mix_8 (hX : SignX c on X) (hez : e < z) (hon : on e) (he : Way01 way e se) {m n : Nat} {s : Int} (hm : May way on z m s) (h8 : off c e se m s = 8) (hnz : n < z) (hno : on n) (hpar : (c n - c e) % 8 ≠ 0) : Mix way X z e := by
  have n1 : m ≠ e := hm.ne he (c := c) (fun h => by rw [h] at h8; exact absurd h8 (by decide))
  obtain ⟨hmz, hmo, hm⟩ := hm
  unfold off at h8
  have n2 : n ≠ e := fun h => by subst h; (first | lia | omega)
  have n3 : m ≠ n := fun h => by
    subst h
    rcases way_pm he with rfl | rfl <;> rcases way_pm hm with rfl | rfl <;> (first | lia | omega)
  obtain ⟨r, hr, er⟩ := rel_of (c m) (c e)
  obtain ⟨q, hq, eq⟩ := rel_of (c n) (c e)
  rw [off_of er] at h8
  obtain ⟨t0, t1, t2, t3⟩ := tab_8 r hr q hq se (pm_of (way_pm he)) s (pm_of (way_pm hm)) h8 (par_of eq hpar)
  have hT := pm_cases t0
  generalize se * sg16 ((q : Nat) - (r : Nat) : Int) = T at hT t1 t2
  rw [← dif_of er eq] at t1
  rw [← neg_of eq] at t2
  rw [← pos_of er] at t3
  have k1 := way_e he (sgn_eq (sg_is (hX m n hmo hno)) hT t1)
  have k3 := sg_is (hX e m hon hmo)
  rw [t3] at k3
  have k4 : X e m = 0 := by (first | lia | omega)
  refine ⟨e, m, n, T, hez, hmz, hnz, Ne.symm n1, Ne.symm n2, n3, hT, ok_mix fun x hx => ?_, ?_⟩
  · rcases hx with rfl | rfl | rfl
    · rw [W3_a]; exact k1.1
    · rw [W3_b n1]; exact way_in hm (sgn_eq (sg_is (hX n e hno hon)) hT t2)
    · rw [W3_d n2 (Ne.symm n3)]; exact three_zero T k4
  · rw [W3_a]; exact fun h => k1.2 (by rw [h, Int.mul_zero])
/-- the line of lamp h, if all that may be used lies on its one side -/
theorem line_of (hX : SignX c on X) (h0 : ∀ j k, ¬ (on j ∧ on k) → X j k = 0) {h : Nat} {T : Int} (hz : h < z) (ho : on h) (hT : T = 1 ∨ T = -1) (key : ∀ m s, May way on z m s → 0 ≤ T * s * X h m) (hne : X h e ≠ 0) : Line way on X z e :=
  ⟨h, T, hz, ho, hT, ok_line h0 key, hne⟩
theorem off_range {m : Nat} {s : Int} : 0 ≤ off c e se m s ∧ off c e se m s < 16 := by unfold off; (first | lia | omega)
theorem line_max (hX : SignX c on X) (h0 : ∀ j k, ¬ (on j ∧ on k) → X j k = 0) (hon : on e) (he : Way01 way e se) {h : Nat} {s : Int} (hm : May way on z h s) (hb : 1 ≤ off c e se h s ∧ off c e se h s ≤ 7)
    (mx : ∀ m t, May way on z m t → off c e se m t ≤ off c e se h s ∨ off c e se h s + 8 ≤ off c e se m t) : Line way on X z e := by
  obtain ⟨hmz, hmo, hm⟩ := hm
  obtain ⟨r, hr, er⟩ := rel_of (c h) (c e)
  unfold off at hb mx
  rw [off_of er] at hb
  obtain ⟨t1, t2⟩ := tab_max r hr se (pm_of (way_pm he)) s (pm_of (way_pm hm)) hb.1 hb.2
  rw [← neg_of er] at t1
  refine line_of (T := -s) hX h0 hmz hmo (by rcases way_pm hm with rfl | rfl <;> decide) (fun m t hmt => ?_) (sgn_ne (sg_is (hX h e hmo hon)) t1 (sg_cases _))
  have k := mx m t hmt
  obtain ⟨q, hq, eq⟩ := rel_of (c m) (c e)
  rw [off_of er, off_of eq] at k
  have t3 := t2 q hq t (pm_of (way_pm hmt.2.2)) k
  rw [← dif_of er eq] at t3
  exact sgn_ge (sg_is (hX h m hmo hmt.2.1)) (pm_mul (by rcases way_pm hm with rfl | rfl <;> decide) (way_pm hmt.2.2)) t3
theorem line_min (hX : SignX c on X) (h0 : ∀ j k, ¬ (on j ∧ on k) → X j k = 0) (hon : on e) (he : Way01 way e se) {h : Nat} {s : Int} (hm : May way on z h s) (hb : 9 ≤ off c e se h s)
    (mx : ∀ m t, May way on z m t → off c e se m t = 0 ∨ off c e se h s ≤ off c e se m t) : Line way on X z e := by
  obtain ⟨hmz, hmo, hm⟩ := hm
  obtain ⟨r, hr, er⟩ := rel_of (c h) (c e)
  unfold off at hb mx
  rw [off_of er] at hb
  obtain ⟨t1, t2⟩ := tab_min r hr se (pm_of (way_pm he)) s (pm_of (way_pm hm)) hb
  rw [← neg_of er] at t1
  refine line_of (T := s) hX h0 hmz hmo (way_pm hm) (fun m t hmt => ?_) (sgn_ne (sg_is (hX h e hmo hon)) t1 (sg_cases _))
  have k := mx m t hmt
  obtain ⟨q, hq, eq⟩ := rel_of (c m) (c e)
  rw [off_of er, off_of eq] at k
  have t3 := t2 q hq t (pm_of (way_pm hmt.2.2)) k
  rw [← dif_of er eq] at t3
  exact sgn_ge (sg_is (hX h m hmo hmt.2.1)) (pm_mul (way_pm hm) (way_pm hmt.2.2)) t3
theorem line_zero (hX : SignX c on X) (h0 : ∀ j k, ¬ (on j ∧ on k) → X j k = 0) (hon : on e) (he : Way01 way e se) {h : Nat} (hz : h < z) (ho : on h) (hpar : (c h - c e) % 8 ≠ 0)
    (mx : ∀ m t, May way on z m t → off c e se m t = 0) : Line way on X z e := by
  obtain ⟨r, hr, er⟩ := rel_of (c h) (c e)
  unfold off at mx
  obtain ⟨t0, t1, t2⟩ := tab_zero r hr se (pm_of (way_pm he)) (par_of er hpar)
  have hT := pm_cases t0
  generalize se * sg16 (-(r : Nat) : Int) = T at hT t2
  rw [← neg_of er] at t1
  refine line_of (T := T) hX h0 hz ho hT (fun m t hmt => ?_) (sgn_ne (sg_is (hX h e ho hon)) t1 (sg_cases _))
  have k := mx m t hmt
  obtain ⟨q, hq, eq⟩ := rel_of (c m) (c e)
  rw [off_of eq] at k
  have t3 := t2 q hq t (pm_of (way_pm hmt.2.2)) k
  rw [← dif_of er eq] at t3
  exact sgn_ge (sg_is (hX h m ho hmt.2.1)) (pm_mul hT (way_pm hmt.2.2)) t3
/-- a lamp without colour is mixed of the first two -/
theorem mix_dark (hX : SignX c on X) (h0 : ∀ j k, ¬ (on j ∧ on k) → X j k = 0) (hz : 2 ≤ z) (hez : e < z) (hoff : ¬ on e) (on0 : on 0) (on1 : on 1) (h01 : 1 ≤ (c 1 - c 0) % 16 ∧ (c 1 - c 0) % 16 ≤ 7) (he : Way01 way e se) : Mix way X z e := by
  have e0 : e ≠ 0 := fun h => by subst h; exact hoff on0
  have e1 : e ≠ 1 := fun h => by subst h; exact hoff on1
  have pos := (hX 0 1 on0 on1).1.mpr h01
  have z1 : X 1 e = 0 := h0 _ _ fun h => hoff h.2
  have z2 : X e 0 = 0 := h0 _ _ fun h => hoff h.1
  refine ⟨0, 1, e, se, by (first | lia | omega), by (first | lia | omega), hez, by decide, Ne.symm e0, Ne.symm e1, by rcases he with ⟨rfl, _⟩ | ⟨rfl, _⟩ <;> decide, ok_mix fun x hx => ?_, ?_⟩
  · rcases hx with rfl | rfl | rfl
    · rw [W3_a, z1, Int.mul_zero]
      exact ⟨fun _ => Int.le_refl _, fun _ => Int.le_refl _, fun _ => rfl⟩
    · rw [W3_b (by decide), z2, Int.mul_zero]
      exact ⟨fun _ => Int.le_refl _, fun _ => Int.le_refl _, fun _ => rfl⟩
    · rw [W3_d e0 e1]
      rcases he with ⟨rfl, he⟩ | ⟨rfl, he⟩ <;> (first | lia | omega)
  · rw [W3_d e0 e1]; (first | lia | omega)
theorem minty (hX : SignX c on X) (h0 : ∀ j k, ¬ (on j ∧ on k) → X j k = 0) (hz : 2 ≤ z) (hez : e < z) (on0 : on 0) (on1 : on 1) (h01 : 1 ≤ (c 1 - c 0) % 16 ∧ (c 1 - c 0) % 16 ≤ 7) (he : Way01 way e se) : Mix way X z e ∨ Line way on X z e := by
  by_cases hon : on e
  · have third : ∃ n, n < z ∧ on n ∧ (c n - c e) % 8 ≠ 0 := by
      by_cases h : (c 0 - c e) % 8 = 0
      · exact ⟨1, by (first | lia | omega), on1, by (first | lia | omega)⟩
      · exact ⟨0, by (first | lia | omega), on0, h⟩
    obtain ⟨n, hnz, hno, hpar⟩ := third
    by_cases h8 : ∃ m s, May way on z m s ∧ off c e se m s = 8
    · obtain ⟨m, s, hm, h⟩ := h8
      exact .inl (mix_8 hX hez hon he hm h hnz hno hpar)
    · by_cases hbg : ∃ m s n t, May way on z m s ∧ May way on z n t ∧ (1 ≤ off c e se m s ∧ off c e se m s ≤ 7) ∧ 9 ≤ off c e se n t ∧ off c e se n t - off c e se m s < 8
      · obtain ⟨m, s, n, t, hm, hn, hb, hg, hd⟩ := hbg
        exact .inl (mix_bg hX hez hon he hm hn hb hg hd)
      · refine .inr ?_
        by_cases hB : ∃ b : Nat, b ≤ 7 ∧ 1 ≤ b ∧ ∃ m s, May way on z m s ∧ off c e se m s = (b : Int)
        · obtain ⟨b, hb7, ⟨hb1, h, s, hm, hoff⟩, hmax⟩ := max_upto (fun b => 1 ≤ b ∧ ∃ m s, May way on z m s ∧ off c e se m s = (b : Int)) 7 hB
          refine line_max hX h0 hon he hm (by (first | lia | omega)) fun m t hmt => ?_
          have r := off_range (c := c) (e := e) (se := se) (m := m) (s := t)
          by_cases k0 : off c e se m t = 0
          · left; (first | lia | omega)
          · by_cases k7 : off c e se m t ≤ 7
            · left
              have := hmax (off c e se m t).toNat (by (first | lia | omega)) ⟨by (first | lia | omega), m, t, hmt, by (first | lia | omega)⟩
              (first | lia | omega)
            · by_cases k8 : off c e se m t = 8
              · exact absurd ⟨m, t, hmt, k8⟩ h8
              · right
                by_cases kd : off c e se m t - off c e se h s < 8
                · exact absurd ⟨h, s, m, t, hm, hmt, by (first | lia | omega), by (first | lia | omega), kd⟩ hbg
                · (first | lia | omega)
        · by_cases hG : ∃ g : Nat, g ≤ 15 ∧ 9 ≤ g ∧ ∃ m s, May way on z m s ∧ off c e se m s = (g : Int)
          · obtain ⟨g, hg15, ⟨hg9, h, s, hm, hoff⟩, hmin⟩ := min_upto (fun g => 9 ≤ g ∧ ∃ m s, May way on z m s ∧ off c e se m s = (g : Int)) 15 hG
            refine line_min hX h0 hon he hm (by (first | lia | omega)) fun m t hmt => ?_
            have r := off_range (c := c) (e := e) (se := se) (m := m) (s := t)
            by_cases k0 : off c e se m t = 0
            · exact .inl k0
            · right
              by_cases k7 : off c e se m t ≤ 7
              · exact absurd ⟨(off c e se m t).toNat, by (first | lia | omega), by (first | lia | omega), m, t, hmt, by (first | lia | omega)⟩ hB
              · by_cases k8 : off c e se m t = 8
                · exact absurd ⟨m, t, hmt, k8⟩ h8
                · have := hmin (off c e se m t).toNat (by (first | lia | omega)) ⟨by (first | lia | omega), m, t, hmt, by (first | lia | omega)⟩
                  (first | lia | omega)
          · refine line_zero hX h0 hon he hnz hno hpar fun m t hmt => ?_
            have r := off_range (c := c) (e := e) (se := se) (m := m) (s := t)
            by_cases k0 : off c e se m t = 0
            · exact k0
            · exfalso
              by_cases k7 : off c e se m t ≤ 7
              · exact hB ⟨(off c e se m t).toNat, by (first | lia | omega), by (first | lia | omega), m, t, hmt, by (first | lia | omega)⟩
              · by_cases k8 : off c e se m t = 8
                · exact h8 ⟨m, t, hmt, k8⟩
                · exact hG ⟨(off c e se m t).toNat, by (first | lia | omega), by (first | lia | omega), m, t, hmt, by (first | lia | omega)⟩
  · exact .inl (mix_dark hX h0 hz hez hon on0 on1 h01 he)
end
end

section
/-! what a word tells, in signs -/
def sgZ (x : Int) : Int := if x = 0 then 0 else if x < 0 then -1 else 1
theorem sgZ_mem (x : Int) : sgZ x ∈ [(0 : Int), -1, 1] := by
  unfold sgZ
  split
  · decide
  · split <;> decide
theorem sgZ_sign (x : Int) : signOf x = signOf (sgZ x) := by
  unfold sgZ signOf
  split
  · rfl
  · split <;> rfl
theorem sgZ_facts (x : Int) : (0 ≤ x ↔ 0 ≤ sgZ x) ∧ (x ≤ 0 ↔ sgZ x ≤ 0) ∧ (x = 0 ↔ sgZ x = 0) := by
  unfold sgZ
  split
  · (first | lia | omega)
  · split <;> (first | lia | omega)
def okT (w s b : Int) : Bool := decide ((w = 0 → 0 ≤ s) ∧ (w = 1 → s ≤ 0) ∧ (w = b → s = 0))
def badT (w s b : Int) : Bool := decide (costOf (wishOf w) (signOf s) = 1) || (decide (w = b) && decide (costOf (wishOf w) (signOf s) = 2))
def goodT (w s : Int) : Bool := decide (w < 2) && decide (costOf (wishOf w) (signOf s) = 0)
theorem tab_ok : ∀ w ∈ [(0 : Int), 1, 2, 3], ∀ s ∈ [(0 : Int), -1, 1], ∀ b ∈ [(2 : Int), 3], badT w s b = !okT w s b ∧ (okT w s b = true → goodT w s = (decide (w < 2) && decide (s ≠ 0))) := by decide +kernel
theorem way4_mem {w : Int} (h : 0 ≤ w ∧ w < 4) : w ∈ [(0 : Int), 1, 2, 3] := by
  have : w = 0 ∨ w = 1 ∨ w = 2 ∨ w = 3 := by (first | lia | omega)
  rcases this with rfl | rfl | rfl | rfl <;> decide
theorem bar_mem {b : Int} (h : b = 2 ∨ b = 3) : b ∈ [(2 : Int), 3] := by rcases h with rfl | rfl <;> decide
theorem ok_at {ways : List Int} {b : Int} {σ : Nat → Int} {k : Nat} : okT (iAt ways k) (sgZ (σ k)) b = true ↔ (iAt ways k = 0 → 0 ≤ σ k) ∧ (iAt ways k = 1 → σ k ≤ 0) ∧ (iAt ways k = b → σ k = 0) := by
  obtain ⟨a, b, c⟩ := sgZ_facts (σ k)
  unfold okT
  rw [decide_eq_true_eq, a, b, c]
theorem tab_at {ways : List Int} {b : Int} {σ : Nat → Int} {k : Nat} (hb : b = 2 ∨ b = 3) (hw : 0 ≤ iAt ways k ∧ iAt ways k < 4) : badAt ways b σ k = (!okT (iAt ways k) (sgZ (σ k)) b) ∧ (okT (iAt ways k) (sgZ (σ k)) b = true → goodAt ways σ k = (decide (iAt ways k < 2) && decide (sgZ (σ k) ≠ 0))) := by
  unfold badAt goodAt costAt
  rw [sgZ_sign (σ k)]
  exact tab_ok _ (way4_mem hw) _ (sgZ_mem _) _ (bar_mem hb)
theorem hits_iff {ways : List Int} {barred : Int} {z : Nat} {σ : Nat → Int} {x : Int} (hb : barred = 2 ∨ barred = 3) (hw : ∀ k, k < z → 0 ≤ iAt ways k ∧ iAt ways k < 4) :
    hits ways barred z σ x ↔ ∃ k, k < z ∧ x = (k : Int) ∧ okWay (iAt ways) barred z σ ∧ iAt ways k < 2 ∧ σ k ≠ 0 := by
  have hbad : ((List.range z).filter (badAt ways barred σ)).map Int.ofNat = [] ↔ okWay (iAt ways) barred z σ := by
    rw [List.map_eq_nil_iff, List.filter_eq_nil_iff]
    constructor
    · intro h m hm
      have h := h m (List.mem_range.mpr hm)
      rw [(tab_at hb (hw m hm)).1] at h
      exact ok_at.mp (by simpa using h)
    · intro h m hm
      have hm := List.mem_range.mp hm
      rw [(tab_at hb (hw m hm)).1, ok_at.mpr (h m hm)]
      decide
  unfold hits
  rw [hbad]
  constructor
  · rintro ⟨ho, hx⟩
    obtain ⟨k, hk, rfl⟩ := List.mem_map.mp hx
    obtain ⟨h1, h2⟩ := List.mem_filter.mp hk
    have hkz := List.mem_range.mp h1
    rw [(tab_at hb (hw k hkz)).2 (ok_at.mpr (ho k hkz)), Bool.and_eq_true, decide_eq_true_eq, decide_eq_true_eq] at h2
    exact ⟨k, hkz, rfl, ho, h2.1, fun h0 => h2.2 ((sgZ_facts (σ k)).2.2.mp h0)⟩
  · rintro ⟨k, hk, rfl, ho, h1, h2⟩
    refine ⟨ho, List.mem_map.mpr ⟨k, List.mem_filter.mpr ⟨List.mem_range.mpr hk, ?_⟩, rfl⟩⟩
    rw [(tab_at hb (hw k hk)).2 (ok_at.mpr (ho k hk)), Bool.and_eq_true, decide_eq_true_eq, decide_eq_true_eq]
    exact ⟨h1, fun h0 => h2 ((sgZ_facts (σ k)).2.2.mpr h0)⟩
theorem cross_swap (lt : Lit) (a b : Nat) : crossOf lt b a = - crossOf lt a b := by unfold crossOf; grind
theorem T0_mem {z i j k : Nat} (h : i < j) (h2 : j < k) (h3 : k < z) : (i, j, k) ∈ T0 z z := by
  simp only [T0, T1, T2, List.mem_flatMap, List.mem_map, List.mem_range]
  exact ⟨i, by (first | lia | omega), j - (i + 1), by (first | lia | omega), k - (j + 1), by (first | lia | omega), by
    have e1 : i + 1 + (j - (i + 1)) = j := by (first | lia | omega)
    have e2 : j + 1 + (k - (j + 1)) = k := by (first | lia | omega)
    simp [e1, e2]⟩
theorem wgt_W3 {lt : Lit} {i j k : Nat} (m : Nat) : wgtOf lt (i, j, k) m = W3 (crossOf lt) i j k m := rfl
/-- a triple in any order is one of the list, up to the sign -/
theorem tri_of {lt : Lit} {z a b d : Nat} (ha : a < z) (hb : b < z) (hd : d < z) (h1 : a ≠ b) (h2 : a ≠ d) (h3 : b ≠ d) : ∃ q ∈ T0 z z, ∃ T : Int, (T = 1 ∨ T = -1) ∧ ∀ m, W3 (crossOf lt) a b d m = T * wgtOf lt q m := by
  have sw := cross_swap lt
  have key : ∀ i j k : Nat, ∀ T : Int, i < j → j < k → k < z → (T = 1 ∨ T = -1) → (∀ m, W3 (crossOf lt) a b d m = T * W3 (crossOf lt) i j k m) → ∃ q ∈ T0 z z, ∃ T : Int, (T = 1 ∨ T = -1) ∧ ∀ m, W3 (crossOf lt) a b d m = T * wgtOf lt q m :=
    fun i j k T h1 h2 h3 hT h => ⟨(i, j, k), T0_mem h1 h2 h3, T, hT, fun m => by rw [wgt_W3]; exact h m⟩
  have cases : (a < b ∧ b < d) ∨ (a < d ∧ d < b) ∨ (b < a ∧ a < d) ∨ (b < d ∧ d < a) ∨ (d < a ∧ a < b) ∨ (d < b ∧ b < a) := by (first | lia | omega)
  rcases cases with ⟨x, y⟩ | ⟨x, y⟩ | ⟨x, y⟩ | ⟨x, y⟩ | ⟨x, y⟩ | ⟨x, y⟩
  · exact key a b d 1 x y hd (.inl rfl) fun m => by rw [Int.one_mul]
  · refine key a d b (-1) x y hb (.inr rfl) fun m => ?_
    unfold W3
    by_cases e1 : m = a
    · subst e1; rw [if_pos rfl, if_pos rfl, sw d b]; (first | lia | omega)
    · by_cases e2 : m = b
      · subst e2; rw [if_neg e1, if_pos rfl, if_neg e1, if_neg h3, if_pos rfl, sw a d]; (first | lia | omega)
      · by_cases e3 : m = d
        · subst e3; rw [if_neg e1, if_neg e2, if_pos rfl, if_neg e1, if_pos rfl, sw b a]; (first | lia | omega)
        · rw [if_neg e1, if_neg e2, if_neg e3, if_neg e1, if_neg e3, if_neg e2]; rfl
  · refine key b a d (-1) x y hd (.inr rfl) fun m => ?_
    unfold W3
    by_cases e1 : m = a
    · subst e1; rw [if_pos rfl, if_neg h1, if_pos rfl, sw d b]; (first | lia | omega)
    · by_cases e2 : m = b
      · subst e2; rw [if_neg e1, if_pos rfl, if_pos rfl, sw a d]; (first | lia | omega)
      · by_cases e3 : m = d
        · subst e3; rw [if_neg e1, if_neg e2, if_pos rfl, if_neg e2, if_neg e1, if_pos rfl, sw b a]; (first | lia | omega)
        · rw [if_neg e1, if_neg e2, if_neg e3, if_neg e2, if_neg e1, if_neg e3]; rfl
  · refine key b d a 1 x y ha (.inl rfl) fun m => ?_
    unfold W3
    by_cases e1 : m = a
    · subst e1; rw [if_pos rfl, if_neg h1, if_neg h2, if_pos rfl, Int.one_mul]
    · by_cases e2 : m = b
      · subst e2; rw [if_neg e1, if_pos rfl, if_pos rfl, Int.one_mul]
      · by_cases e3 : m = d
        · subst e3; rw [if_neg e1, if_neg e2, if_pos rfl, if_neg e2, if_pos rfl, Int.one_mul]
        · rw [if_neg e1, if_neg e2, if_neg e3, if_neg e2, if_neg e3, if_neg e1]; rfl
  · refine key d a b 1 x y hb (.inl rfl) fun m => ?_
    unfold W3
    by_cases e1 : m = a
    · subst e1; rw [if_pos rfl, if_neg h2, if_pos rfl, Int.one_mul]
    · by_cases e2 : m = b
      · subst e2; rw [if_neg e1, if_pos rfl, if_neg h3, if_neg e1, if_pos rfl, Int.one_mul]
      · by_cases e3 : m = d
        · subst e3; rw [if_neg e1, if_neg e2, if_pos rfl, if_pos rfl, Int.one_mul]
        · rw [if_neg e1, if_neg e2, if_neg e3, if_neg e3, if_neg e1, if_neg e2]; rfl
  · refine key d b a (-1) x y ha (.inr rfl) fun m => ?_
    unfold W3
    by_cases e1 : m = a
    · subst e1; rw [if_pos rfl, if_neg h2, if_neg h1, if_pos rfl, sw d b]; (first | lia | omega)
    · by_cases e2 : m = b
      · subst e2; rw [if_neg e1, if_pos rfl, if_neg h3, if_pos rfl, sw a d]; (first | lia | omega)
      · by_cases e3 : m = d
        · subst e3; rw [if_neg e1, if_neg e2, if_pos rfl, if_pos rfl, sw b a]; (first | lia | omega)
        · rw [if_neg e1, if_neg e2, if_neg e3, if_neg e3, if_neg e2, if_neg e1]; rfl
end

section
/-! the paints in 128ths -/
def rgbI (c q u : Nat) : Nat × Nat × Nat :=
  if q = 0 then (32 * (u + 1), 32 * (u + 1), 32 * (u + 1)) else
  if 3 * c / 8 = 0 then (32 * (u + 1), 32 * (u + 1) - (u + 1) * q * (8 - 3 * c % 8), 32 * (u + 1) - 8 * (u + 1) * q) else
  if 3 * c / 8 = 1 then (32 * (u + 1) - (u + 1) * q * (3 * c % 8), 32 * (u + 1), 32 * (u + 1) - 8 * (u + 1) * q) else
  if 3 * c / 8 = 2 then (32 * (u + 1) - 8 * (u + 1) * q, 32 * (u + 1), 32 * (u + 1) - (u + 1) * q * (8 - 3 * c % 8)) else
  if 3 * c / 8 = 3 then (32 * (u + 1) - 8 * (u + 1) * q, 32 * (u + 1) - (u + 1) * q * (3 * c % 8), 32 * (u + 1)) else
  if 3 * c / 8 = 4 then (32 * (u + 1) - (u + 1) * q * (8 - 3 * c % 8), 32 * (u + 1) - 8 * (u + 1) * q, 32 * (u + 1)) else
    (32 * (u + 1), 32 * (u + 1) - 8 * (u + 1) * q, 32 * (u + 1) - (u + 1) * q * (3 * c % 8))
def fq3 (t : Nat × Nat × Nat) : Rgb := (fq t.1, fq t.2.1, fq t.2.2)
theorem fmod6_nat (n : Nat) : Int.fmod (n : Int) 6 = ((n % 6 : Nat) : Int) := by
  rw [Int.fmod_eq_emod_of_nonneg _ (by decide)]; (first | lia | omega)
theorem hsv_fq {N q u : Nat} (hN : N < 112) (hq : q < 5) (hu : u < 4) : hsvF (fN N) (f4 q) (f4 (u + 1)) = fq3 (rgbI (N % 16) q u) := by
  obtain ⟨_, a2, a3⟩ := flt_A N hN
  obtain ⟨b1, b2⟩ := flt_B (3 * N % 8) (by (first | lia | omega)) q hq u hu
  obtain ⟨c1, c2, c3⟩ := flt_C q hq u hu
  have hQ' : hQ (fN N) (f4 q) (f4 (u + 1)) = fq (32 * (u + 1) - (u + 1) * q * (3 * N % 8)) := by unfold hQ; rw [a3]; exact b1
  have hT' : hT (fN N) (f4 q) (f4 (u + 1)) = fq (32 * (u + 1) - (u + 1) * q * (8 - 3 * N % 8)) := by unfold hT; rw [a3]; exact b2
  have e8 : 3 * (N % 16) % 8 = 3 * N % 8 := by (first | lia | omega)
  have e6 : 3 * N / 8 % 6 = 3 * (N % 16) / 8 := by (first | lia | omega)
  by_cases h0 : q = 0
  · have hz : (Float64.cmp (f4 q) 0 == some Ordering.eq) = true := by rw [c3, h0]; rfl
    rw [← hsvF_z hz, c2]
    unfold rgbI
    rw [if_pos h0]; rfl
  · have hz : (Float64.cmp (f4 q) 0 == some Ordering.eq) = false := by rw [c3]; simpa using h0
    have hi : Int.fmod (hI (fN N)) 6 = ((3 * (N % 16) / 8 : Nat) : Int) := by rw [a2, fmod6_nat, e6]
    rw [hsvF_n hz, hi, hQ', hT', c1, c2]
    unfold rgbI
    rw [if_neg h0, e8]
    have h5 : 3 * (N % 16) / 8 < 6 := by (first | lia | omega)
    generalize 3 * (N % 16) / 8 = i at h5 ⊢
    have hc : i = 0 ∨ i = 1 ∨ i = 2 ∨ i = 3 ∨ i = 4 ∨ i = 5 := by (first | lia | omega)
    rcases hc with rfl | rfl | rfl | rfl | rfl | rfl <;> rfl
def okB (C : Rgb) : Bool := ((Float64.cmp (gL C.1 C.2.1 C.2.2) (gM C.1 C.2.1 C.2.2) == some Ordering.eq) || (!Float64.isZero (gM C.1 C.2.1 C.2.2) && !Float64.isZero (gR C.1 C.2.1 C.2.2))) && (!satOf C || Float64.isFinite (Float64.mul (rgbF C.1 C.2.1 C.2.2).1 (Float64.ofInt 16)))
def tabE (c q u : Nat) : Bool := decide ((rgbI c q u).1 ≤ 128) && decide ((rgbI c q u).2.1 ≤ 128) && decide ((rgbI c q u).2.2 ≤ 128) && okB (fq3 (rgbI c q u)) && (satOf (fq3 (rgbI c q u)) == (q != 0)) && (q == 0 || decide (hueOf (fq3 (rgbI c q u)) = (c : Int)))
theorem flt_E0 : ∀ q, q < 5 → ∀ u, u < 4 → tabE 0 q u = true := by decide +kernel
theorem flt_E1 : ∀ q, q < 5 → ∀ u, u < 4 → tabE 1 q u = true := by decide +kernel
theorem flt_E2 : ∀ q, q < 5 → ∀ u, u < 4 → tabE 2 q u = true := by decide +kernel
theorem flt_E3 : ∀ q, q < 5 → ∀ u, u < 4 → tabE 3 q u = true := by decide +kernel
theorem flt_E4 : ∀ q, q < 5 → ∀ u, u < 4 → tabE 4 q u = true := by decide +kernel
theorem flt_E5 : ∀ q, q < 5 → ∀ u, u < 4 → tabE 5 q u = true := by decide +kernel
theorem flt_E6 : ∀ q, q < 5 → ∀ u, u < 4 → tabE 6 q u = true := by decide +kernel
theorem flt_E7 : ∀ q, q < 5 → ∀ u, u < 4 → tabE 7 q u = true := by decide +kernel
theorem flt_E8 : ∀ q, q < 5 → ∀ u, u < 4 → tabE 8 q u = true := by decide +kernel
theorem flt_E9 : ∀ q, q < 5 → ∀ u, u < 4 → tabE 9 q u = true := by decide +kernel
theorem flt_E10 : ∀ q, q < 5 → ∀ u, u < 4 → tabE 10 q u = true := by decide +kernel
theorem flt_E11 : ∀ q, q < 5 → ∀ u, u < 4 → tabE 11 q u = true := by decide +kernel
theorem flt_E12 : ∀ q, q < 5 → ∀ u, u < 4 → tabE 12 q u = true := by decide +kernel
theorem flt_E13 : ∀ q, q < 5 → ∀ u, u < 4 → tabE 13 q u = true := by decide +kernel
theorem flt_E14 : ∀ q, q < 5 → ∀ u, u < 4 → tabE 14 q u = true := by decide +kernel
theorem flt_E15 : ∀ q, q < 5 → ∀ u, u < 4 → tabE 15 q u = true := by decide +kernel
theorem flt_E : ∀ c, c < 16 → ∀ q, q < 5 → ∀ u, u < 4 → tabE c q u = true := fun c hc => by
  match c, hc with
  | 0, _ => exact flt_E0
  | 1, _ => exact flt_E1
  | 2, _ => exact flt_E2
  | 3, _ => exact flt_E3
  | 4, _ => exact flt_E4
  | 5, _ => exact flt_E5
  | 6, _ => exact flt_E6
  | 7, _ => exact flt_E7
  | 8, _ => exact flt_E8
  | 9, _ => exact flt_E9
  | 10, _ => exact flt_E10
  | 11, _ => exact flt_E11
  | 12, _ => exact flt_E12
  | 13, _ => exact flt_E13
  | 14, _ => exact flt_E14
  | 15, _ => exact flt_E15
  | n + 16, h => exact absurd h (Nat.not_lt_of_le (Nat.le_add_left 16 n))
end

section
def dirX (c : Nat) : Int := ((rgbI c 1 0).1 : Int) - (rgbI c 1 0).2.2
def dirY (c : Nat) : Int := ((rgbI c 1 0).2.1 : Int) - (rgbI c 1 0).2.2
theorem vec_tab : ∀ c, c < 16 → ∀ q, q < 5 → ∀ u, u < 4 → ((rgbI c q u).1 : Int) - (rgbI c q u).2.2 = ((u + 1) * q : Nat) * dirX c ∧ ((rgbI c q u).2.1 : Int) - (rgbI c q u).2.2 = ((u + 1) * q : Nat) * dirY c := by decide +kernel
theorem sgn_tab : ∀ c, c < 16 → ∀ d, d < 16 → (0 < dirX c * dirY d - dirY c * dirX d ↔ 1 ≤ ((d : Int) - c) % 16 ∧ ((d : Int) - c) % 16 ≤ 7) ∧ (dirX c * dirY d - dirY c * dirX d < 0 ↔ 9 ≤ ((d : Int) - c) % 16) := by decide +kernel
def cN (ms : List Int) (k : Nat) : Nat := (placeOf ms k).toNat % 16
def qN (ms : List Int) (k : Nat) : Nat := (quartOf ms k).toNat
def uN (ms : List Int) (k : Nat) : Nat := (valueOf ms k - 1).toNat
theorem place_b (ms : List Int) (k : Nat) : 0 ≤ placeOf ms k ∧ placeOf ms k < 23 := by
  have b1 := fmod_b (iAt ms k) (n := 16) (by decide)
  have b2 := fmod_b (iAt ms 0) (n := 16) (by decide)
  have b3 := fmod_b (iAt ms 1) (n := 7) (by decide)
  unfold placeOf; split <;> omega
theorem quart_b (ms : List Int) (k : Nat) : 0 ≤ quartOf ms k ∧ quartOf ms k < 5 ∧ (k < 2 → 1 ≤ quartOf ms k) := by
  have b4 := fmod_b (Int.fdiv (iAt ms k) 16) (n := 4) (by decide)
  have b5 := fmod_b (Int.fdiv (iAt ms k) 16) (n := 5) (by decide)
  unfold quartOf; split <;> omega
theorem value_b (ms : List Int) (k : Nat) : 1 ≤ valueOf ms k ∧ valueOf ms k ≤ 4 := by
  have b6 := fmod_b (Int.fdiv (iAt ms k) 80) (n := 4) (by decide)
  unfold valueOf; (first | lia | omega)
theorem first_two (ms : List Int) : 1 ≤ ((cN ms 1 : Int) - cN ms 0) % 16 ∧ ((cN ms 1 : Int) - cN ms 0) % 16 ≤ 7 := by
  have b2 := fmod_b (iAt ms 0) (n := 16) (by decide)
  have b3 := fmod_b (iAt ms 1) (n := 7) (by decide)
  have e0 : placeOf ms 0 = Int.fmod (iAt ms 0) 16 := rfl
  have e1 : placeOf ms 1 = Int.fmod (iAt ms 0) 16 + 1 + Int.fmod (iAt ms 1) 7 := rfl
  unfold cN
  rw [e0, e1]
  omega
theorem paint_fq (ms : List Int) {k : Nat} (hk : k < 6) : paintOf ms k = fq3 (rgbI (cN ms k) (qN ms k) (uN ms k)) ∧ cN ms k < 16 ∧ qN ms k < 5 ∧ uN ms k < 4 := by
  have b1 := place_b ms k
  have b2 := quart_b ms k
  have b3 := value_b ms k
  obtain ⟨N, hN⟩ : ∃ N : Nat, placeOf ms k + 16 * (k : Int) = (N : Int) := ⟨(placeOf ms k + 16 * (k : Int)).toNat, by (first | lia | omega)⟩
  have hNb : N < 112 := by (first | lia | omega)
  have hq : quartOf ms k = ((qN ms k : Nat) : Int) := by unfold qN; (first | lia | omega)
  have hu : valueOf ms k = ((uN ms k + 1 : Nat) : Int) := by unfold uN; (first | lia | omega)
  have hq5 : qN ms k < 5 := by (first | lia | omega)
  have hu4 : uN ms k < 4 := by (first | lia | omega)
  have hc : N % 16 = cN ms k := by unfold cN; (first | lia | omega)
  refine ⟨?_, by unfold cN; (first | lia | omega), hq5, hu4⟩
  unfold paintOf
  rw [hN, hq, hu, ← hc]
  exact hsv_fq hNb hq5 hu4
theorem lamp_facts (ms : List Int) {k : Nat} (hk : k < 6) :
    (finI (paintOf ms k).1 ∧ finI (paintOf ms k).2.1 ∧ finI (paintOf ms k).2.2) ∧ litOf ms k = (((rgbI (cN ms k) (qN ms k) (uN ms k)).1 : Int), ((rgbI (cN ms k) (qN ms k) (uN ms k)).2.1 : Int), ((rgbI (cN ms k) (qN ms k) (uN ms k)).2.2 : Int)) ∧
    ((rgbI (cN ms k) (qN ms k) (uN ms k)).1 ≤ 128 ∧ (rgbI (cN ms k) (qN ms k) (uN ms k)).2.1 ≤ 128 ∧ (rgbI (cN ms k) (qN ms k) (uN ms k)).2.2 ≤ 128) ∧ PaintOk (paintOf ms k) ∧ placeK ms k = if qN ms k = 0 then none else some (cN ms k : Int) := by
  obtain ⟨e, hc, hq, hu⟩ := paint_fq ms hk
  have hE := flt_E _ hc _ hq _ hu
  unfold tabE at hE
  simp only [Bool.and_eq_true, Bool.or_eq_true, decide_eq_true_eq, beq_iff_eq] at hE
  obtain ⟨⟨⟨⟨⟨h1, h2⟩, h3⟩, h4⟩, h5⟩, h6⟩ := hE
  unfold placeK litOf
  rw [e]
  generalize rgbI (cN ms k) (qN ms k) (uN ms k) = t at *
  obtain ⟨a, b, d⟩ := t
  dsimp only at h1 h2 h3
  obtain ⟨f1, g1⟩ := flt_D a (by (first | lia | omega))
  obtain ⟨f2, g2⟩ := flt_D b (by (first | lia | omega))
  obtain ⟨f3, g3⟩ := flt_D d (by (first | lia | omega))
  refine ⟨⟨f1, f2, f3⟩, ?_, ⟨h1, h2, h3⟩, ?_, ?_⟩
  · show (toI (fq a), toI (fq b), toI (fq d)) = _
    unfold toI
    rw [g1, g2, g3]
  · unfold okB at h4
    simp only [Bool.and_eq_true, Bool.or_eq_true, Bool.not_eq_true', beq_iff_eq] at h4
    refine ⟨fun hne => ?_, fun hs => ?_⟩
    · rcases h4.1 with h | h
      · rw [h] at hne; exact absurd hne (by decide)
      · exact ⟨by rw [h.1]; exact Bool.false_ne_true, by rw [h.2]; exact Bool.false_ne_true⟩
    · rcases h4.2 with h | h
      · rw [h] at hs; exact absurd hs Bool.false_ne_true
      · exact h
  · unfold placeAt
    rw [h5]
    by_cases h0 : qN ms k = 0
    · rw [if_pos h0, h0]; rfl
    · rw [if_neg h0, if_pos (by simpa using h0)]
      rcases h6 with h | h
      · exact absurd h h0
      · rw [h]
theorem pos_scale {a x : Int} (ha : 0 < a) : (0 < a * x ↔ 0 < x) ∧ (a * x < 0 ↔ x < 0) := by
  constructor
  · constructor
    · intro h
      rcases Int.lt_trichotomy x 0 with h2 | h2 | h2
      · have := Int.mul_neg_of_pos_of_neg ha h2; (first | lia | omega)
      · rw [h2, Int.mul_zero] at h; (first | lia | omega)
      · exact h2
    · exact fun h => Int.mul_pos ha h
  · constructor
    · intro h
      rcases Int.lt_trichotomy x 0 with h2 | h2 | h2
      · exact h2
      · rw [h2, Int.mul_zero] at h; (first | lia | omega)
      · have := Int.mul_pos ha h2; (first | lia | omega)
    · exact fun h => Int.mul_neg_of_pos_of_neg ha h
theorem cross_val (ms : List Int) {j k : Nat} (hj : j < 6) (hk : k < 6) : crossOf (litOf ms) j k = (((uN ms j + 1) * qN ms j : Nat) : Int) * (((uN ms k + 1) * qN ms k : Nat) : Int) * (dirX (cN ms j) * dirY (cN ms k) - dirY (cN ms j) * dirX (cN ms k)) := by
  obtain ⟨_, l1, _⟩ := lamp_facts ms hj
  obtain ⟨_, l2, _⟩ := lamp_facts ms hk
  obtain ⟨_, c1, q1, u1⟩ := paint_fq ms hj
  obtain ⟨_, c2, q2, u2⟩ := paint_fq ms hk
  obtain ⟨v1, w1⟩ := vec_tab _ c1 _ q1 _ u1
  obtain ⟨v2, w2⟩ := vec_tab _ c2 _ q2 _ u2
  unfold crossOf
  rw [l1, l2]
  dsimp only
  rw [v1, w1, v2, w2]
  grind
def onK (ms : List Int) (z j : Nat) : Prop := j < z ∧ qN ms j ≠ 0
def Xof (ms : List Int) (z j k : Nat) : Int := if j < z ∧ k < z then crossOf (litOf ms) j k else 0
theorem X_in {ms : List Int} {z j k : Nat} (hj : j < z) (hk : k < z) : Xof ms z j k = crossOf (litOf ms) j k := by unfold Xof; rw [if_pos ⟨hj, hk⟩]
theorem signX {ms : List Int} {z : Nat} (hz : z ≤ 6) : SignX (fun k => (cN ms k : Int)) (onK ms z) (Xof ms z) := fun j k hj hk => by
  rw [X_in hj.1 hk.1, cross_val ms (by have := hj.1; (first | lia | omega)) (by have := hk.1; (first | lia | omega))]
  obtain ⟨_, c1, _⟩ := paint_fq ms (k := j) (by have := hj.1; (first | lia | omega))
  obtain ⟨_, c2, _⟩ := paint_fq ms (k := k) (by have := hk.1; (first | lia | omega))
  have p1 : (0 : Int) < (((uN ms j + 1) * qN ms j : Nat) : Int) := Int.natCast_pos.mpr (Nat.mul_pos (Nat.succ_pos (uN ms j)) (Nat.pos_of_ne_zero hj.2))
  have p2 : (0 : Int) < (((uN ms k + 1) * qN ms k : Nat) : Int) := Int.natCast_pos.mpr (Nat.mul_pos (Nat.succ_pos (uN ms k)) (Nat.pos_of_ne_zero hk.2))
  obtain ⟨s1, s2⟩ := pos_scale (x := dirX (cN ms j) * dirY (cN ms k) - dirY (cN ms j) * dirX (cN ms k)) (Int.mul_pos p1 p2)
  obtain ⟨t1, t2⟩ := sgn_tab _ c1 _ c2
  exact ⟨s1.trans t1, s2.trans t2⟩
theorem X_off {ms : List Int} {z : Nat} (hz : z ≤ 6) (j k : Nat) (h : ¬ (onK ms z j ∧ onK ms z k)) : Xof ms z j k = 0 := by
  unfold Xof
  by_cases hjk : j < z ∧ k < z
  · rw [if_pos hjk, cross_val ms (by (first | lia | omega)) (by (first | lia | omega))]
    have : qN ms j = 0 ∨ qN ms k = 0 := by
      by_cases h1 : qN ms j = 0
      · exact .inl h1
      · by_cases h2 : qN ms k = 0
        · exact .inr h2
        · exact absurd ⟨⟨hjk.1, h1⟩, ⟨hjk.2, h2⟩⟩ h
    rcases this with h | h <;> rw [h] <;> simp
  · rw [if_neg hjk]
theorem sgn_mul {T : Int} (hT : T = 1 ∨ T = -1) : ∃ e, e < 2 ∧ ∀ (σ : Nat → Int) m, sgnOf σ e m = T * σ m := by
  rcases hT with rfl | rfl
  · exact ⟨0, by decide, fun σ m => by show σ m = _; rw [Int.one_mul]⟩
  · exact ⟨1, by decide, fun σ m => by show -σ m = _; (first | lia | omega)⟩
theorem sgn_e {e : Nat} (he : e < 2) : ∃ T : Int, (T = 1 ∨ T = -1) ∧ ∀ (σ : Nat → Int) m, sgnOf σ e m = T * σ m := by
  have : e = 0 ∨ e = 1 := by (first | lia | omega)
  rcases this with rfl | rfl
  · exact ⟨1, .inl rfl, fun σ m => by show σ m = _; rw [Int.one_mul]⟩
  · exact ⟨-1, .inr rfl, fun σ m => by show -σ m = _; (first | lia | omega)⟩
theorem okWay_congr {way : Nat → Int} {b : Int} {z : Nat} {σ τ : Nat → Int} (h : ∀ m, m < z → (0 < σ m ↔ 0 < τ m) ∧ (σ m < 0 ↔ τ m < 0)) (ho : okWay way b z σ) : okWay way b z τ := fun m hm => by
  obtain ⟨a, b, c⟩ := ho m hm
  obtain ⟨p, q⟩ := h m hm
  refine ⟨fun h => ?_, fun h => ?_, fun h => ?_⟩
  · have := a h; (first | lia | omega)
  · have := b h; (first | lia | omega)
  · have := c h; (first | lia | omega)
theorem okWay_way {w1 w2 : Nat → Int} {b : Int} {z : Nat} {σ : Nat → Int} (h : ∀ m, m < z → w1 m = w2 m) (ho : okWay w1 b z σ) : okWay w2 b z σ := fun m hm => by
  have := ho m hm
  rw [h m hm] at this; exact this
/-- a line's word has the signs of the crosses -/
theorem line_sign {ms : List Int} {z h m : Nat} (hz : z ≤ 6) (hon : onK ms z h) (hm : m < z) : (0 < sideSign (cN ms h : Int) (placeK ms m) ↔ 0 < Xof ms z h m) ∧ (sideSign (cN ms h : Int) (placeK ms m) < 0 ↔ Xof ms z h m < 0) := by
  obtain ⟨_, _, _, _, hp⟩ := lamp_facts ms (k := m) (by (first | lia | omega))
  rw [hp]
  by_cases h0 : qN ms m = 0
  · rw [if_pos h0, X_off hz h m fun hh => hh.2.2 h0]
    exact ⟨Iff.rfl, Iff.rfl⟩
  · rw [if_neg h0]
    obtain ⟨s1, s2⟩ := signX hz h m hon ⟨hm, h0⟩
    rw [s1, s2]
    unfold sideSign
    dsimp only
    rw [Int.fmod_eq_emod_of_nonneg _ (by decide), Int.fmod_eq_emod_of_nonneg _ (by decide)]
    split
    · omega
    · split <;> (first | lia | omega)
theorem on_place {ms : List Int} {z h : Nat} (hz : z ≤ 6) (hon : onK ms z h) : placeK ms h = some (cN ms h : Int) := by
  obtain ⟨_, _, _, _, hp⟩ := lamp_facts ms (k := h) (by have := hon.1; (first | lia | omega))
  rw [hp, if_neg hon.2]
theorem told_iff {ms : List Int} {z : Nat} {b : Int} (hb : b = 2 ∨ b = 3) {sg : List (Nat → Int)} {x : Int} : toldBy (waysOf ms z) b z sg x ↔ ∃ σ ∈ sg, ∃ T : Int, (T = 1 ∨ T = -1) ∧ ∃ k, k < z ∧ x = (k : Int) ∧ okWay (wayOf ms) b z (fun m => T * σ m) ∧ wayOf ms k < 2 ∧ σ k ≠ 0 := by
  have hway : ∀ m, m < z → iAt (waysOf ms z) m = wayOf ms m := fun m hm => iAt_ways hm
  unfold toldBy
  constructor
  · rintro ⟨σ, hσ, e, he, h⟩
    obtain ⟨k, hk, rfl, ho, h1, h2⟩ := (hits_iff hb ways_b).mp h
    obtain ⟨T, hT, hs⟩ := sgn_e he
    refine ⟨σ, hσ, T, hT, k, hk, rfl, ?_, by rw [← hway k hk]; exact h1, fun h0 => h2 ?_⟩
    · have : sgnOf σ e = fun m => T * σ m := funext fun m => hs σ m
      rw [← this]
      exact okWay_way hway ho
    · rw [hs, h0, Int.mul_zero]
  · rintro ⟨σ, hσ, T, hT, k, hk, rfl, ho, h1, h2⟩
    obtain ⟨e, he, hs⟩ := sgn_mul hT
    refine ⟨σ, hσ, e, he, (hits_iff hb ways_b).mpr ⟨k, hk, rfl, ?_, by rw [hway k hk]; exact h1, ?_⟩⟩
    · have : sgnOf σ e = fun m => T * σ m := funext fun m => hs σ m
      rw [this]
      exact okWay_way (fun m hm => (hway m hm).symm) ho
    · rw [hs]
      rcases hT with rfl | rfl <;> (first | lia | omega)
theorem law_one (ms : List Int) (z : Nat) (hz : z = 4 ∨ z = 6) (x : Int) : ¬ (toldBy (waysOf ms z) 3 z (sgM z (litOf ms)) x ∧ toldBy (waysOf ms z) 2 z (sgL z (placeK ms)) x) := by
  have hz6 : z ≤ 6 := by (first | lia | omega)
  rintro ⟨hm, hl⟩
  obtain ⟨σ, hσ, T, hT, k, hk, rfl, ho, h1, h2⟩ := (told_iff (.inr rfl)).mp hm
  obtain ⟨τ, hτ, U, hU, k', hk', ek, ho', _, h2'⟩ := (told_iff (.inl rfl)).mp hl
  have : k' = k := by (first | lia | omega)
  subst this
  obtain ⟨q, hq, rfl⟩ := List.mem_map.mp hσ
  obtain ⟨hq0, _⟩ := List.mem_filter.mp hq
  obtain ⟨i, j, d⟩ := q
  have hlt := T0_lt hq0
  dsimp only at hlt
  obtain ⟨here, hh, rfl⟩ := List.mem_map.mp hτ
  obtain ⟨h, hhz, hpl⟩ := List.mem_filterMap.mp hh
  have hhz := List.mem_range.mp hhz
  have hon : onK ms z h := by
    refine ⟨hhz, fun h0 => ?_⟩
    obtain ⟨_, _, _, _, hp⟩ := lamp_facts ms (k := h) (by (first | lia | omega))
    rw [hp, if_pos h0] at hpl; cases hpl
  have hhere : here = (cN ms h : Int) := by
    rw [on_place hz6 hon] at hpl; exact (Option.some.inj hpl).symm
  subst hhere
  have hX : ∀ m, m < z → (0 < U * sideSign (cN ms h : Int) (placeK ms m) ↔ 0 < U * Xof ms z h m) ∧ (U * sideSign (cN ms h : Int) (placeK ms m) < 0 ↔ U * Xof ms z h m < 0) := fun m hm => by
    obtain ⟨a, b⟩ := line_sign hz6 hon hm
    rcases hU with rfl | rfl <;> (first | lia | omega)
  have ho2 : okWay (wayOf ms) 2 z (fun m => U * Xof ms z h m) := okWay_congr hX ho'
  have h2'' : sideSign (cN ms h : Int) (placeK ms k') ≠ 0 := h2'
  have hne : U * Xof ms z h k' ≠ 0 := by
    obtain ⟨a, b⟩ := line_sign hz6 hon hk'
    rcases hU with rfl | rfl <;> (first | lia | omega)
  refine exclusive ho ho2 (fun m _ => ⟨(way_b ms m).1, by have := (way_b ms m).2.1; (first | lia | omega)⟩) (i := i) (j := j) (k := d) (by (first | lia | omega)) (by (first | lia | omega)) hlt.2.2 (fun m a b c => ?_) ?_ hk ?_ hne
  · show T * wgtOf (litOf ms) (i, j, d) m = 0
    have : wgtOf (litOf ms) (i, j, d) m = 0 := by unfold wgtOf; rw [if_neg a, if_neg b, if_neg c]
    rw [this, Int.mul_zero]
  · have := wgt_cross (lt := litOf ms) (h := h) hlt.1 hlt.2.1
    rw [X_in hhz (by (first | lia | omega)), X_in hhz (by (first | lia | omega)), X_in hhz hlt.2.2]
    have e : T * wgtOf (litOf ms) (i, j, d) i * (U * crossOf (litOf ms) h i) + T * wgtOf (litOf ms) (i, j, d) j * (U * crossOf (litOf ms) h j) + T * wgtOf (litOf ms) (i, j, d) d * (U * crossOf (litOf ms) h d) =
      T * U * (wgtOf (litOf ms) (i, j, d) i * crossOf (litOf ms) h i + wgtOf (litOf ms) (i, j, d) j * crossOf (litOf ms) h j + wgtOf (litOf ms) (i, j, d) d * crossOf (litOf ms) h d) := by grind
    rw [e, this, Int.mul_zero]
  · show T * wgtOf (litOf ms) (i, j, d) k' ≠ 0
    rcases hT with rfl | rfl <;> (first | lia | omega)
theorem W3_X {ms : List Int} {z a b d m : Nat} (ha : a < z) (hb : b < z) (hd : d < z) : W3 (Xof ms z) a b d m = W3 (crossOf (litOf ms)) a b d m := by
  unfold W3
  rw [X_in hb hd, X_in hd ha, X_in ha hb]
theorem law_all (ms : List Int) (z : Nat) (hz : z = 4 ∨ z = 6) (x : Int) : (toldBy (waysOf ms z) 3 z (sgM z (litOf ms)) x ∨ toldBy (waysOf ms z) 2 z (sgL z (placeK ms)) x) ↔ ∃ k, k < z ∧ x = (k : Int) ∧ wayOf ms k < 2 := by
  have hz6 : z ≤ 6 := by (first | lia | omega)
  constructor
  · rintro (h | h)
    · obtain ⟨_, _, _, _, k, hk, e, _, h1, _⟩ := (told_iff (.inr rfl)).mp h
      exact ⟨k, hk, e, h1⟩
    · obtain ⟨_, _, _, _, k, hk, e, _, h1, _⟩ := (told_iff (.inl rfl)).mp h
      exact ⟨k, hk, e, h1⟩
  · rintro ⟨e, hez, rfl, hwe⟩
    have hw0 := (way_b ms e).1
    have on0 : onK ms z 0 := ⟨by (first | lia | omega), by have := (quart_b ms 0).2.2 (by decide); unfold qN; (first | lia | omega)⟩
    have on1 : onK ms z 1 := ⟨by (first | lia | omega), by have := (quart_b ms 1).2.2 (by decide); unfold qN; (first | lia | omega)⟩
    obtain ⟨se, hse⟩ : ∃ se, Way01 (wayOf ms) e se := by
      by_cases h : wayOf ms e = 0
      · exact ⟨1, .inl ⟨rfl, h⟩⟩
      · exact ⟨-1, .inr ⟨rfl, by (first | lia | omega)⟩⟩
    rcases minty (signX hz6) (X_off hz6) (by (first | lia | omega)) hez on0 on1 (first_two ms) hse with ⟨a, b, d, T, ha, hb, hd, n1, n2, n3, hT, ho, hne⟩ | ⟨h, T, hh, hon, hT, ho, hne⟩
    · left
      obtain ⟨q, hq, S, hS, hW⟩ := tri_of (lt := litOf ms) ha hb hd n1 n2 n3
      rw [W3_X ha hb hd, hW] at hne
      have hne2 : wgtOf (litOf ms) q e ≠ 0 := fun h0 => hne (by rw [h0, Int.mul_zero])
      refine (told_iff (.inr rfl)).mpr ⟨wgtOf (litOf ms) q, List.mem_map.mpr ⟨q, List.mem_filter.mpr ⟨hq, ?_⟩, rfl⟩, T * S, ?_, e, hez, rfl, ?_, hwe, hne2⟩
      · exact (word_facts hz _).2.2.2.mpr ⟨e, hez, hne2⟩
      · rcases hT with rfl | rfl <;> rcases hS with rfl | rfl <;> decide
      · have e2 : (fun m => T * W3 (Xof ms z) a b d m) = fun m => T * S * wgtOf (litOf ms) q m := funext fun m => by
          rw [W3_X ha hb hd, hW, Int.mul_assoc]
        rw [← e2]; exact ho
    · right
      refine (told_iff (.inl rfl)).mpr ⟨fun m => sideSign (cN ms h : Int) (placeK ms m), List.mem_map.mpr ⟨(cN ms h : Int), List.mem_filterMap.mpr ⟨h, List.mem_range.mpr hh, on_place hz6 hon⟩, rfl⟩, T, hT, e, hez, rfl, ?_, hwe, ?_⟩
      · refine okWay_congr (fun m hm => ?_) ho
        obtain ⟨a, b⟩ := line_sign hz6 hon hm
        show (0 < T * Xof ms z h m ↔ 0 < T * sideSign (cN ms h : Int) (placeK ms m)) ∧ (T * Xof ms z h m < 0 ↔ T * sideSign (cN ms h : Int) (placeK ms m) < 0)
        rcases hT with rfl | rfl <;> (first | lia | omega)
      · obtain ⟨a, b⟩ := line_sign hz6 hon hez
        show sideSign (cN ms h : Int) (placeK ms e) ≠ 0
        (first | lia | omega)
theorem law_facts (ms : List Int) (z : Nat) (_h0 : ∀ x ∈ ms, 0 ≤ x) (_hl : ms.length = z) (hz : z = 4 ∨ z = 6) : LawFacts ms z where
  fin := fun j hj => (lamp_facts ms (k := j) (by (first | lia | omega))).1
  bnd := fun j hj => by
    obtain ⟨_, l, b, _⟩ := lamp_facts ms (k := j) (by (first | lia | omega))
    rw [l]; dsimp only; (first | lia | omega)
  ok := fun j hj => (lamp_facts ms (k := j) (by (first | lia | omega))).2.2.2.1
  one := law_one ms z hz
  all := law_all ms z hz
end

section
open PyProof.Rows.LCg
theorem lines_MLaw : True := by
  k_with_none
  k_with "my mem" => (first | assumption | k_mem)
  k_with "my kmem" => (first | assumption | (refine List.mem_append_right _ ?_; k_mem) | (refine List.mem_cons_of_mem _ ?_; k_mem))
  k_with "my kmem" => (exact List.mem_cons_self ..)
  k_with "subscriptTail Name Name ref int" => (walk_at "my item")
  k_with "subscriptTail Name Constant ref int" => (walk_at "my item")
  k_with "my item" => ((with_reducible show wpAny _ _ (subscriptTail _ _ (Value.ref _) (Value.int _ _)) _ _ _); k_dflt (refine item_led (by k_asm) (by walk_at "my mem") (by first | decide | with_reducible assumption | omega) (by first | decide | with_reducible assumption | omega) (by first | with_reducible assumption | exact rfl) ?_ (by with_unfolding_all rfl); k_whole))
  k_with "call builtin:len" => (k_here; (with_reducible show wpAny _ _ (call (Value.builtin "len") [Value.ref _]) _ _ _); k_dflt (refine len_led (by k_asm) (by walk_at "my mem") (by first | assumption | exact rfl) (by first | with_reducible assumption | omega) ?_; k_whole); intro t' k')
  k_with "my for" => (k_here; (rename Fr _ _ _ _ => lF'); (with_unfolding_all refine For_turns lF' ?_; k_whole))
  k_with "my frame" => (repeat' (first | exact OffStored.base | exact OffStored.refl _ _ | refine OffStored.put (by decide) ?_))
  k_with "my append" => (k_here; k_dflt (show wpAny _ _ (call (Value.builtin "list.append") [Value.ref _, _]) _ _ _); k_dflt (refine append_led (by k_asm) (by k_asm) (by walk_at "my mem") ?_ (by first | assumption | size_fits)); intro h' F' N')
  k_with "my div" => (k_here; (with_reducible show wpAny _ _ (binaryOp _ (Value.int _ _) (Value.float _ _)) _ _ _); k_dflt (refine div_if (by exact rfl) (by first | assumption | omega) (by decide +kernel) ?_; k_whole))
  k_with "my join" => (refine JoinP.of (by k_asm) (by k_asm) (by (intro y hy; first | rfl | exact if_neg hy)) ?_)
  k_with "storeName" => (k_here; (try dsimp only); k_dflt (refine storeX_L (by k_asm) (by k_asm) ?_ (by rfl) (by rfl); k_whole; intro h' F' N'; (try k_sweep)))
  k_with "my enterC" => (refine code_defC (by k_asm) (by k_asm) (by k_asm) (by k_asm) (by k_asm) (by exact rfl) (by exact rfl) (by assumption) (by k_is) (by k_is) (by ktr_room) (by exact BindsTo.of_eq rfl) (by exact rfl) (by decide +kernel) ?_ (by exact rfl) (by exact rfl) (by exact rfl); k_whole; intro g' L' h' tk' cells' FG' F' N' Y' B' X' T' l1; k_cells Y'; (try simp only [List.cons_append, List.nil_append] at N'); (try dsimp only); (try k_lift B'); (try k_fold))
  k_with "setItem ref int" => (k_here; k_dflt (refine set_led (by k_asm) (by k_asm) (by walk_at "my mem") (by first | assumption | omega) (by first | assumption | omega) (by first | assumption | omega) ?_; k_whole); intro h' F' N')
  k_with "my tup" => ((with_reducible show wpAny _ _ (subscriptTail _ _ (Value.ref _) (Value.int _ _)) _ _ _); k_dflt (refine tup_led (by k_asm) (by walk_at "my mem") (by first | decide | with_reducible assumption | omega) (by first | decide | with_reducible assumption | omega) (by first | with_reducible assumption | exact rfl) ?_ (by with_unfolding_all rfl); k_whole))
  k_with "my comp" => (k_here; k_dflt (refine PyProof.Rows.LCg.CompSrc.ledger (by rfl) (by k_asm) (by k_asm) (by walk_at "my mem") (by first | assumption | size_fits | exact Nat.le_of_ble_eq_true rfl) ?_); intro g'; refine Halt.go ?_)
  k_with "my str.join" => (k_here; k_dflt (show wpAny _ _ (call (Value.builtin "str.join") [Value.str _ _, Value.ref _]) _ _ _); k_dflt (refine join_led (by k_asm) (by walk_at "my mem") (by assumption) (by assumption) (by assumption) (by decide +kernel) ?_); intro t' k')
  k_with "my free" => (k_here; (with_reducible show wpAny _ _ (eval (Expr.Name _ _) (compEnvC _ _ _ _)) _ _ _); k_dflt (refine ld_free (by rfl) (by k_asm) (by rfl) (by assumption) (by assumption) ?_))
  trivial

theorem more_MLaw_1 : True := by
  k_with "call ref" => (k_here; (with_reducible show wpAny _ _ (call (Value.ref _) _) _ _ _); refine Halt.go ?_)
  k_with "CompSrc" => (walk_at "my comp")
  k_with "my updF" => (first | exact (UpdF.head (by with_reducible assumption)) | exact (UpdF.tail (by with_reducible assumption) (UpdF.head (by with_reducible assumption))))
  k_with "eval ListComp" => (k_here; (with_reducible show wpAny _ _ (eval (Expr.ListComp (Expr.ListComp _ _ _ _) [⟨_, _, [], _⟩] _ _) _) _ _ _); k_dflt (refine PyProof.Rows.LCg.ListComp_U (F₀ := by k_asm) (by rfl) (by decide) (by rfl) (by decide) (by rfl) ?_))
  k_with "eval ListComp" => (k_here; (with_reducible show wpAny _ _ (eval (Expr.ListComp (Expr.Call _ _ _ _) [⟨_, _, [], _⟩] _ _) _) _ _ _); k_dflt (refine ListComp_tup (F₀ := by k_asm) (by with_unfolding_all rfl) (by decide) (by rfl) (by decide) (by rfl) ?_))
  k_with "call type:int" => ((with_reducible show wpAny _ _ (call _ [Value.float _ _]) _ _ _); k_dflt (refine int_fin (by exact rfl) (by first | with_reducible assumption | assumption) ?_; k_whole))
  k_with "eval Name" => (k_here; (with_reducible show wpAny _ _ (eval (Expr.Name (Str.ofString "ways") _) (compEnvC _ _ _ _)) _ _ _); k_dflt (refine ld_free (by rfl) (by k_asm) (by rfl) (by k_mem) (by assumption) ?_))
  k_with "CompSrcT" => (k_here; k_dflt (refine PyProof.Rows.LCt.CompSrcT.range (by rfl) (by k_asm) (by k_asm) (by with_reducible assumption) (by with_reducible assumption) (rangeSize_nat _ _) (by with_reducible assumption) ?_); intro g'; refine Halt.go ?_)
  k_with "eval ListComp" => (k_here; (with_reducible show wpAny _ _ (eval (Expr.ListComp _ [⟨_, _, [_], _⟩] _ _) _) _ _ _); k_dflt (refine PyProof.Rows.LCt.ListComp_T (F₀ := by k_asm) (by with_unfolding_all rfl) (by decide) (by rfl) (by decide) (by rfl) ?_))
  k_with "compareOp Eq ref ref" => (k_here; (with_reducible show wpAny _ _ (compareOp CmpOp.Eq (Value.ref _) (Value.ref _)) _ _ _); refine Halt.go ?_)
  trivial
theorem main : PySem.Challenge.rw_tl0013_01.Holds := by
  w_on
  refine holds_law said fun said => ?_
  refine holds_open (q := MQ) (loose := []) (Xt := fun s => xlAt MQ [] s && recOk PySem.Challenge.rw_tl0013_01.row.toRowW.records s) (XP := XL MQ []) (Yf := Hook.obs HH) (Ya := Hook.val HH) (YP := Hook.says HH) (N := 1542) left (Hook.of HH) (Hook.keeps HH) (fun s e => xl_of s (Bool.and_eq_true_iff.mp e).1) XL.keeps (by rfl) (by rfl) (by rfl) (fun s e => recFacts_of (Bool.and_eq_true_iff.mp e).2) (by rfl) said (by decide +kernel) ⟨rfl, rfl, rfl, rfl, rfl, by decide +kernel⟩ ?hw ?hc
  case hw => w_witness2
  clear said
  k_go0
  rename 30 < _ ∧ 37 < _ => l0
  k_steps
  refine Halt.mk ?_
  rename News _ _ _ _ => N1
  rename Heap.IsList _ _ _ => hL
  rename IntsAre _ _ => hI
  refine call_useL (cells_spec _ _ _ _ _ hI (by omega)) (by k_asm) (by k_asm) (by k_asm) N1 (by k_asm) (by first | exact rfl | assumption) hL (by ktr_room) (by ktr_units) ?_
  rintro r1 tl1 h1 k1 F1 N2 o1 ⟨lc, vals, ms, n, er, etl, hvals, hml, hm0⟩
  subst er
  subst etl
  clear N1
  obtain ⟨z, hz⟩ : ∃ z, z = ms.length := ⟨_, rfl⟩
  rw [← hz] at hml
  obtain ⟨ffin, fbnd, fok, fone, fall⟩ := law_facts ms z hm0 hz.symm hml
  have hvz : vals.length = z := by rw [hvals.length, hz]
  have hvK : IntsAre vals ms ∧ True := ⟨hvals, trivial⟩
  k_steps
  refine Halt.mk ?_
  rename News _ _ _ _ => N3
  have hvals := hvK.1
  refine call_use (paints_spec _ _ _ vals ms n z (List.mem_cons_self ..) hvals hvz hm0 hml) (by k_asm) (by k_asm) (by k_asm) N3 (by k_asm) (by first | exact rfl | assumption) (by ktr_room) (by ktr_units) ?_
  rintro r2 tl2 h2 k2 F2 N4 o2 ⟨lp, as, n2, er, hlp, hasl, hall⟩
  subst er
  clear N3
  obtain ⟨X1, N5, hX1, hcX, htX⟩ := law_shape1 N4 o2 (fun p hp => Ne.symm (o1 p hp (_, _) (List.mem_cons_self ..)))
  clear N4
  k_steps
  refine Halt.mk ?_
  rename News _ _ _ _ => N6
  refine call_use (ways_spec _ _ lc vals ms n z (List.mem_cons_of_mem _ (List.mem_cons_of_mem _ (List.mem_cons_of_mem _ hcX))) hvK.1 hvz hml) (by k_asm) (by k_asm) (by k_asm) N6 (by k_asm) (by first | exact rfl | assumption) (by ktr_room) (by ktr_units) ?_
  rintro r3 tl3 h3 k3 F3 N7 o3 ⟨lw, wys, er, etl, hwys⟩
  subst er
  subst etl
  clear N6
  have hne := ne_cells l0 (w := tabObj #[]) hX1
  have hne2 : lw ≠ _ := Ne.symm (o3 (_, _) (List.mem_cons_self ..) (_, _) (List.mem_cons_self ..))
  have hsz1 : (as.map Value.ref).toArray.size ≤ sizeLine := by simp [sizeLine]; omega
  have hlpX := htX _ hlp
  k_steps
  refine Halt.mk ?_
  rename Obj.data _ = Data.cell (some (Value.ref lw)) => dW
  refine comp_inv (GJ _ (litOf ms)) (fun i ys led hJ => ?_) GJ.start ?_ ?_
  · obtain ⟨tl, as', rfl, _⟩ := hJ
    exact src_led (List.mem_append_right _ (by k_mem))
  · rintro i v ys led I oI C oC D m2 h tk E' hi hPv hJ hC hx F N off
    have hi' : i < z := by simpa [hasl] using hi
    obtain ⟨a, t0, t1, t2, ea, ham⟩ := hall i hi'
    have ev : v = .ref a := by simpa [ea] using hPv.symm
    subst ev
    have ham2 : (a, tup3 (paintOf ms i) t0 t1 t2) ∈ led := by
      obtain ⟨tl, as', e, _⟩ := hJ
      rw [e]
      exact List.mem_append_right _ (List.mem_cons_of_mem _ (List.mem_cons_of_mem _ (List.mem_cons_of_mem _ (List.mem_cons_of_mem _ (htX _ ham)))))
    k_steps
    refine SrcTup.of (by rfl) (by k_asm) (by k_asm) (List.mem_cons_of_mem _ (List.mem_cons_of_mem _ (List.mem_cons_of_mem _ ham2))) (by size_fits) ?_
    intro g'
    refine comp_pure (fun j y => ∃ t, y = Value.int (toI (sel3 (paintOf ms i) j)) t) (List.mem_cons_of_mem _ (List.mem_cons_of_mem _ (List.mem_cons_of_mem _ ham2))) ?_ ?_
    · intro j v2 ys2 I2 oI2 C2 oC2 D2 m2' h tk E' hj hPv2 hC hx F N
      obtain ⟨tv, ev⟩ := sel3_val hPv2
      subst ev
      have hf := sel3_fin (ffin i hi') j
      k_steps
      exact cend_int rfl (by k_asm) (by k_asm)
    intro yz hl3 hyz
    obtain ⟨x0, x1, x2, eyz⟩ := three_toI hl3 hyz
    subst eyz
    k_steps
    rename Fr _ _ _ _ => F6
    rename News _ _ _ _ => N6
    rename _ ≠ _ ∧ _ ≠ _ ∧ _ ≠ _ ∧ Off1 _ led => oE
    exact CEndJ.of F6 N6 (GJ.step hJ rfl oE off)
  · rintro ys led ⟨tl, as3, rfl, ap3, rfl, hal3, hall3⟩
    k_steps
    refine Halt.mk ?_
    rename News _ _ _ _ => N8
    rename Off1 _ (tl ++ _) => oD
    obtain ⟨rest, hsub, hr30, hr37, hDr, htr, hlwr, hcr, hXr⟩ := law_shape2 N8 oD ap3 (fun p hp => o3 p (List.mem_cons_of_mem _ hp) _ (List.mem_cons_self ..)) (cell_ne l0) hX1
    have hLt : LightsAt rest _ as3 _ z (litOf ms) := ⟨hDr, by rw [hal3]; simpa using hasl, fun j hj => by
      obtain ⟨a, nn, t0, t1, t2, e1, e2⟩ := hall3 j (by simpa [hasl] using hj)
      exact ⟨a, nn, t0, t1, t2, e1, htr _ e2⟩⟩
    refine callM_use (mixes_spec _ rest hr30 hr37 _ as3 _ z (litOf ms) hLt hml fbnd) (by k_asm) (by k_asm) (by k_asm) N8 hsub (by k_asm) (by first | exact rfl | assumption) (by ktr_room) (by ktr_units) ?_
    intro r4 led4 tl4 t30 t37 h4 k4 F9 N9 e4 o4 ⟨lm, ws, n4, er, hlm, hws, ps30, ps37, et30, et37⟩
    subst er
    subst et30
    subst et37
    clear N8
    have hlm4 : (lm, W.listOf ws.toArray n4) ∈ led4 := by rw [e4]; exact List.mem_append_left _ hlm
    have hr4 : ∀ p ∈ rest, p ∈ led4 := fun p hp => by rw [e4]; exact List.mem_append_right _ (List.mem_cons_of_mem _ (List.mem_cons_of_mem _ hp))
    have hlw4 := hr4 _ hlwr
    have hc4 := hr4 _ hcr
    have h30 : (30, tabObj ps30) ∈ led4 := by rw [e4]; exact List.mem_append_right _ (List.mem_cons_self ..)
    have h37 : (37, tabObj ps37) ∈ led4 := by rw [e4]; exact List.mem_append_right _ (List.mem_cons_of_mem _ (List.mem_cons_self ..))
    clear e4 o4 hsub
    rw [mixes_words] at hws
    k_steps
    refine Halt.mk ?_
    rename News _ _ _ _ => N9b
    refine call_use (reached_spec _ led4 lw wys (waysOf ms z) _ z hlw4 hwys ways_len hml ways_b lm ws (sgM z (litOf ms)) n4 hlm4 hws (sgM_len hml) 3 _) (by k_asm) (by k_asm) (by k_asm) (by k_asm) (by k_asm) (by first | exact rfl | assumption) (by ktr_room) (by ktr_units) ?_
    rintro r5 tl5 h5 k5 F10 N10 o5 ⟨l1, vs1, ns1, n5, er, hl1, hi1, hs1, hd1, ht1⟩
    subst er
    clear N9b
    obtain ⟨led5, e5⟩ : ∃ led5, led5 = tl5 ++ led4 := ⟨_, rfl⟩
    rw [← e5] at N10
    have hl1' : (l1, W.listOf vs1.toArray n5) ∈ led5 := by rw [e5]; exact List.mem_append_left _ hl1
    have hr5 : ∀ p ∈ led4, p ∈ led5 := fun p hp => by rw [e5]; exact List.mem_append_right _ hp
    have hi1K : IntsAre vs1 ns1 ∧ True := ⟨hi1, trivial⟩
    clear hi1
    clear e5 o5
    have hc5 := hr5 _ hc4
    k_steps
    refine Halt.mk ?_
    rename News _ _ _ _ => N11
    refine call_use (lines_spec _ led5 lp as _ z (paintOf ms) ⟨hr5 _ (hr4 _ (hXr _ hlpX)), hasl, fun j hj => ?_⟩ fok (by omega)) (by k_asm) (by k_asm) (by k_asm) N11 (by k_asm) (by first | exact rfl | assumption) (by ktr_room) (by ktr_units) ?_
    · obtain ⟨a, t0, t1, t2, ea, ham⟩ := hall j hj
      exact ⟨a, t0, t1, t2, ea, hr5 _ (hr4 _ (hXr _ (htX _ ham)))⟩
    rintro r6 tl6 h6 k6 F12 N12 o6 ⟨ll6, ws6, n6, er, etl, hws6⟩
    subst er
    subst etl
    clear N11
    replace hws6 : StrsAre ws6 ((sgL z (placeK ms)).map (wordOf z)) := by rw [← lines_words]; exact hws6
    k_steps
    refine Halt.mk ?_
    rename News _ _ _ _ => N13
    refine call_use (reached_spec _ _ lw wys (waysOf ms z) _ z (List.mem_cons_of_mem _ (hr5 _ hlw4)) hwys ways_len hml ways_b ll6 ws6 (sgL z (placeK ms)) n6 (List.mem_cons_self ..) hws6 (sgL_len hml) 2 _) (by k_asm) (by k_asm) (by k_asm) N13 (by k_asm) (by first | exact rfl | assumption) (by ktr_room) (by ktr_units) ?_
    rintro r7 tl7 h7 k7 F14 N14 o7 ⟨l2, vs2, ns2, n7, er, hl2, hi2, hs2, hd2, ht2⟩
    subst er
    clear N13
    obtain ⟨led7, e7⟩ : ∃ led7, led7 = tl7 ++ (ll6, W.listOf ws6.toArray n6) :: led5 := ⟨_, rfl⟩
    rw [← e7] at N14
    have hl2' : (l2, W.listOf vs2.toArray n7) ∈ led7 := by rw [e7]; exact List.mem_append_left _ hl2
    have hr7 : ∀ p ∈ led5, p ∈ led7 := fun p hp => by rw [e7]; exact List.mem_append_right _ (List.mem_cons_of_mem _ hp)
    have hi2K : IntsAre vs2 ns2 ∧ True := ⟨hi2, trivial⟩
    clear hi2
    clear e7 o7
    have hl17 := hr7 _ hl1'
    have hc7 := hr7 _ (hr5 _ hc4)
    obtain ⟨hl1s, hl2s⟩ := told_small hml hd1 hd2 ht1 ht2
    k_steps
    refine kmk_add_ints (by k_asm) N14 (isL N14 hl17) (isL N14 hl2') hi1K.1 hi2K.1 ?_ hl1s
    intro D8 ws8 h8 F15 N15 l8 hi8
    clear N14
    have hi8K : IntsAre ws8 (ns1 ++ ns2) ∧ True := ⟨hi8, trivial⟩
    clear hi8
    k_steps
    rename News _ _ _ _ => N16
    refine kso_sorted (by k_asm) N16 (isL N16 (List.mem_cons_self ..)) hi8K.1 hl2s ?_
    intro D9 vs9 ns9 c9 h9 F17 N17 l9 hi9 hll9 hp9 ho9 _
    clear N16
    have hi9K : IntsAre vs9 ns9 ∧ True := ⟨hi9, trivial⟩
    clear hi9
    have hsm := small_z hml
    have hzs : ((z : Int) - 0).toNat ≤ sizeLine := zs_small hml
    have hlw7 := hr7 _ (hr5 _ hlw4)
    have hwyl : wys.length = z := by rw [hwys.length]; simp
    k_steps
    refine Halt.mk ?_
    refine comp_test (fun j => decide (wayOf ms j < 2)) (fun j => (j : Int)) trivial ?_ ?_ ?_
    · rintro j v ys3 I3 oI3 C3 oC3 D3 m3' h tk E' hj ⟨tj, ev⟩ hC hx F N
      rw [Int.zero_add] at ev
      subst ev
      have hj' : j < z := lt_zs hj
      have a0 : (0 : Int) ≤ (j : Nat) := Int.natCast_nonneg j
      have a1 := nat_63 hj' hml
      obtain ⟨tv, eway⟩ := ints_at hwys (i := j) (by simpa using hj')
      rw [iAt_map hj'] at eway
      have eway : wys[((j : Nat) : Int).toNat]? = _ := eway
      k_steps
      exact CEnd.of (by k_asm) (by k_asm) rfl
    · rintro j v ys3 I3 oI3 C3 oC3 D3 m3' h tk E' hj ⟨tj, ev⟩ hC hx F N
      rw [Int.zero_add] at ev
      subst ev
      k_steps
      exact cend_int rfl (by k_asm) (by k_asm)
    intro ysb hyb
    k_steps
    refine Halt.mk ?_
    rename News _ _ _ _ => N19
    have ez : ((z : Int) - 0).toNat = z := by rw [Int.sub_zero, Int.toNat_natCast]
    rw [ez] at hyb
    refine eq_intsK (vs := vs9) (us := ysb) (isL N19 (List.mem_cons_of_mem _ (List.mem_cons_self ..))) hi9K.1 (isL N19 (List.mem_cons_self ..)) hyb (by units_room) ?_
    rw [decide_eq_true (lists_eq hp9 ho9 hd1 hd2 ht1 ht2 fone fall)]
    clear hyb
    have g30 := hr7 _ (hr5 _ h30)
    have g37 := hr7 _ (hr5 _ h37)
    refine ⟨?_, GrownAt.of N19 (List.mem_cons_of_mem _ (List.mem_cons_of_mem _ (List.mem_cons_of_mem _ g30))), GrownAt.of N19 (List.mem_cons_of_mem _ (List.mem_cons_of_mem _ (List.mem_cons_of_mem _ g37))), trivial⟩
    k_steps
end
end Mine

theorem PySem.Challenge.cw_tl0013_01_holds : PySem.Challenge.rw_tl0013_01.Holds := by
  exact Mine.main
