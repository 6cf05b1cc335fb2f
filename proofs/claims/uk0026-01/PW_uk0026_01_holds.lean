import PyProof.Rows.All
import Wide.All
import OpenK.AllK
import Wide.FinOn
import PySem.Challenge.RW_uk0026_01
open PySem PySem.W PyProof.Rows PySem.Calls
set_option Elab.async false
set_option linter.all false
set_option compiler.extract_closed false
set_option maxRecDepth 100000
set_option maxHeartbeats 8000000
set_option rowWalk.seconds 0
namespace Mine
local macro_rules | `(tactic| omega) => `(tactic| first | lia | omega (config := {}))
/- text Hd -/
noncomputable def vw : Program := view PySem.Challenge.rw_uk0026_01.row.prog [0, 1, 8, 9, 10, 12, 14, 15, 16, 17, 18, 19, 21, 22, 23, 24, 25, 26, 27, 28, 29, 30, 31]
inductive IsPw : Program → Prop
  | mk : IsPw PySem.Challenge.pw_uk0026_01
inductive IsRw : OpenLaw → Prop
  | mk : IsRw PySem.Challenge.rw_uk0026_01
theorem IsPw.eq : ∀ {q : Program}, IsPw q → PySem.Challenge.pw_uk0026_01 = q
  | _, .mk => rfl
theorem IsRw.eq : ∀ {q : OpenLaw}, IsRw q → PySem.Challenge.rw_uk0026_01 = q
  | _, .mk => rfl
noncomputable def pwL : {q : Program // IsPw q} := by
  refine' ⟨_, ?h⟩
  case h =>
    have h := IsPw.mk
    unfold PySem.Challenge.pw_uk0026_01 at h
    exact h
noncomputable def rwL : {q : OpenLaw // IsRw q} := by
  refine' ⟨_, ?h⟩
  case h =>
    have h := IsRw.mk
    unfold PySem.Challenge.rw_uk0026_01 at h
    rw [IsPw.eq pwL.2] at h
    exact h
theorem holds_vw {α : Type} {Yf : Shared → α} {Ya : World → α} {YP : World → Heap → Prop} {d : DefRec} {kwd : List (Str × Expr)}
    (left : LeftO PySem.Challenge.rw_uk0026_01.row.prog vw ["insort_right", "bisect_right", "insort_left", "bisect_left", "tspecials", "_name_disallowed_re", "_value_disallowed_re", "_formatparam"] (fun s => xlAt vw [] s && recOk (RowW.records PySem.Challenge.rw_uk0026_01.row.toRowW) s) Yf Ya 3548) (hY : ∀ w s, Yf s = Ya w → YP w s.heap) (hYk : ∀ w h h', YP w h → (∀ b o, h.get? b = some o → h'.get? b = some o) → YP w h')
    (hdef : defOf vw PySem.Challenge.rw_uk0026_01.row.name = some (d, kwd)) (hp : PySem.Challenge.rw_uk0026_01.row.prog.theDef PySem.Challenge.rw_uk0026_01.row.name = some (d.params, d.body, d.scope)) (hk : kwWritten? d.params.kwonlyargs d.params.kw_defaults = some kwd)
    (k1 : PySem.Challenge.rw_uk0026_01.row.wellSaid = true) (hw : PySem.Challenge.rw_uk0026_01.row.toRowW.promised)
    (call : WalkO vw ["insort_right", "bisect_right", "insort_left", "bisect_left", "tspecials", "_name_disallowed_re", "_value_disallowed_re", "_formatparam"] (XL vw []) YP PySem.Challenge.rw_uk0026_01.row.toRowW d kwd fun f vs => PySem.call f vs) : PySem.Challenge.rw_uk0026_01.row.Holds :=
  holds_open left hY hYk (fun s e => xl_of s (Bool.and_eq_true_iff.mp e).1) XL.keeps hdef hp hk (fun s e => recFacts_of (Bool.and_eq_true_iff.mp e).2) (by first | rfl | fail "A") k1 (by decide +kernel) ⟨rfl, rfl, rfl, rfl, rfl, by decide +kernel⟩ hw call
theorem said_ : PySem.Challenge.rw_uk0026_01.wellSaid = true := by
  rw [IsRw.eq rwL.2]
  unfold OpenLaw.wellSaid OpenRow.wellSaid OpenRow.partSaid looksOpen
  repeat' (first | (with_reducible refine look_both ?_ ?_) | k_qdec | as_aux_lemma => kernel_rfl)
section
local macro_rules | `(tactic| o_head $H) => `(tactic| (refine holds_vw (Yf := Hook.obs $H) (Ya := Hook.val $H) (YP := Hook.says $H) ?hl (Hook.of $H) (Hook.keeps $H) (by rfl) (by rfl) (by rfl) (by assumption) ?hw ?hc; (case hl => (intro w; kernel_rfl))))
local macro_rules | `(tactic| o_law) => `(tactic| refine holds_law said_ fun said => ?_)
open_top hd for PySem.Challenge.rw_uk0026_01
end
/- text B0 -/
theorem w_B0 : True := by
  w_top off
  exact trivial
noncomputable def Cx (w : World) (d u : Nat) (news : List (Addr × Obj)) (t : Sem Value) (post : Value → List (Addr × Obj) → Prop) : Prop :=
  ∀ (loose : List Str) (mean : ExcName → Option Value) (mg mb : Str → Option Value) (dp un : Nat) (gd : Option (List Code)) (cn : Str) (cs : Scope) (a : Addr) (ccd : Value) (cl : List (Str × Addr)) (outer : List Env) (A₀ : Around) (base h₀ : Heap) (L : Addr) (m : Str → Option Value) (s : Shared) (Q E : Value → Shared → Prop),
   Below A₀ base outer h₀ → Fr h₀ L s.heap m → Frag.In (hd.heap_1 w.params) h₀ → News h₀ L s.heap news → Top topProg loose mean mg mb h₀ → cs.kind = .function → dp + d < recursionLimit → un + u < cLine →
   (∀ r news' h' tk', post r news' → Fr h₀ L h' m → News h₀ L h' news' → Q r {s with heap := h', toks := tk'}) →
   wpAny (model PySem.Challenge.rw_uk0026_01.row.prog w) (ktrTop dp un gd cn cs L a ccd cl outer) t Q E s
theorem room3 {dp a b c R : Nat} (h : dp + c < R) (hk : Nat.ble (a + b) c = true) : dp + a + b < R := by
  have := Nat.le_of_ble_eq_true hk
  omega
theorem room2 {dp a c R : Nat} (h : dp + c < R) (hk : Nat.ble a c = true) : dp + a < R := by
  have := Nat.le_of_ble_eq_true hk
  omega
theorem room1 {dp c R : Nat} (h : dp + c < R) : dp < R := by omega
theorem leK {a b c : Nat} (h : a ≤ b) (hk : Nat.ble b c = true) : a ≤ c := Nat.le_trans h (Nat.le_of_ble_eq_true hk)
theorem nc {g : Heap} {L : Addr} {h : Heap} {a : Addr × Obj} {r : List (Addr × Obj)} (ha : News g L h [a]) (hr : News g L h r) : News g L h (a :: r) := fun p hp =>
  (List.mem_cons.mp hp).elim (fun e => e ▸ ha a (.head _)) (hr p)
theorem nm {g : Heap} {L : Addr} {h : Heap} {a : Addr × Obj} {l : List (Addr × Obj)} (N : News g L h l) (hm : a ∈ l) : News g L h [a] := fun p hp => List.mem_singleton.mp hp ▸ N a hm
theorem na {g : Heap} {L : Addr} {h : Heap} {a b : List (Addr × Obj)} (ha : News g L h a) (hb : News g L h b) : News g L h (a ++ b) := fun p hp => (List.mem_append.mp hp).elim (ha p) (hb p)
theorem nl {g : Heap} {L : Addr} {h : Heap} {a b : List (Addr × Obj)} (N : News g L h (a ++ b)) : News g L h a := fun p hp => N p (List.mem_append_left _ hp)
theorem nr {g : Heap} {L : Addr} {h : Heap} {a b : List (Addr × Obj)} (N : News g L h (a ++ b)) : News g L h b := fun p hp => N p (List.mem_append_right _ hp)
/-- a post, hidden behind a bound name -/
noncomputable def Hid {α : Type} (Q : α → Shared → Prop) (v : α) (s : Shared) : Prop := Q v s
structure HidEq {α : Type} (Q Q' : α → Shared → Prop) : Prop where
  h : ∀ v s, Q v s → Q' v s
theorem Hid.out {α : Type} {Q Q' : α → Shared → Prop} {v : α} {s : Shared} (h : HidEq Q Q') (q : Q v s) : Hid Q' v s := h.h v s q
theorem hideQ {M : Model} {A : Around} {α : Type} {t : Sem α} {Q : α → Shared → Prop} {E : Value → Shared → Prop} {s : Shared} (h : ∀ Q' E', HidEq Q Q' → wpAny M A t (Hid Q') E' s) : wpAny M A t Q E s := h Q E ⟨fun _ _ h => h⟩
structure HidC (M : Model) (A : Around) (rest : List Stmt) (env : Env) (Q : Flow → Shared → Prop) (E : Value → Shared → Prop) (Q' : Flow → Shared → Prop) : Prop where
  n : ∀ s, wpAny M A (execs rest env) Q E s → Q' .next s
  o : ∀ f s, f ≠ .next → Q f s → Q' f s
theorem hideC {M : Model} {A : Around} {st : Stmt} {rest : List Stmt} {env : Env} {Q : Flow → Shared → Prop} {E : Value → Shared → Prop} {s : Shared} (h : ∀ Q' E', HidC M A rest env Q E Q' → wpAny M A (exec st env) (Hid Q') E' s) : wpAny M A (execs (st :: rest) env) Q E s :=
  wpAny_execs_cons (h _ E ⟨fun _ h => h, fun f _ n h => by cases f <;> first | exact absurd rfl n | exact h⟩)
theorem execs_one {M : Model} {A : Around} {st : Stmt} {env : Env} {Q : Flow → Shared → Prop} {E : Value → Shared → Prop} {s : Shared} (h : wpAny M A (exec st env) Q E s) : wpAny M A (execs [st] env) Q E s :=
  wpAny_execs_cons (wpAny_mono h (fun f _ h => by cases f <;> first | exact wpAny_execs_nil h | exact h) fun _ _ h => h)
theorem Hid.next {M : Model} {A : Around} {rest : List Stmt} {env : Env} {Q Q' : Flow → Shared → Prop} {E : Value → Shared → Prop} {s : Shared} (H : HidC M A rest env Q E Q') (h : wpAny M A (execs rest env) Q E s) : Hid Q' .next s := H.n s h
theorem Hid.ret {M : Model} {A : Around} {rest : List Stmt} {env : Env} {Q Q' : Flow → Shared → Prop} {E : Value → Shared → Prop} {s : Shared} {v : Value} (H : HidC M A rest env Q E Q') (h : Q (.ret v) s) : Hid Q' (.ret v) s := H.o _ s (fun h => nomatch h) h
/- text G -/
theorem w_G : True := by
  w_top off
  exact trivial
theorem Cx.go {w : World} {d u : Nat} {news : List (Addr × Obj)} {t : Sem Value} {post : Value → List (Addr × Obj) → Prop} (C : Cx w d u news t post)
  {loose : List Str} {mean : ExcName → Option Value} {mg mb : Str → Option Value} {dp un : Nat} {gd : Option (List Code)} {cn : Str} {cs : Scope} {a : Addr} {ccd : Value} {cl : List (Str × Addr)} {outer : List Env} {A₀ : Around} {base h₀ : Heap} {L : Addr} {m : Str → Option Value} {s : Shared} {Q E : Value → Shared → Prop}
   (h : ∀ r news' h' tk', post r news' → Fr h₀ L h' m → News h₀ L h' news' → Q r {s with heap := h', toks := tk'})
   (B : Below A₀ base outer h₀ := by k_asm) (F : Fr h₀ L s.heap m := by k_asm) (X : Frag.In (hd.heap_1 w.params) h₀ := by k_asm) (N : News h₀ L s.heap news := by k_asm) (T : Top topProg loose mean mg mb h₀ := by k_asm) (hk : cs.kind = .function := by first | exact rfl | assumption) (h1 : dp + d < recursionLimit := by ktr_room) (h2 : un + u < cLine := by ktr_units) :
   wpAny (model PySem.Challenge.rw_uk0026_01.row.prog w) (ktrTop dp un gd cn cs L a ccd cl outer) t Q E s := C loose mean mg mb dp un gd cn cs a ccd cl outer A₀ base h₀ L m s Q E B F X N T hk h1 h2 h
theorem Cx.post {w : World} {d u : Nat} {news : List (Addr × Obj)} {t : Sem Value} {post post' : Value → List (Addr × Obj) → Prop} (C : Cx w d u news t post) (h : ∀ r n', post r n' → post' r n') : Cx w d u news t post' := by
  intro loose mean mg mb dp un gd cn cs a ccd cl outer A₀ base h₀ L m s Q E B F X N T hk hd hu hret
  exact C loose mean mg mb dp un gd cn cs a ccd cl outer A₀ base h₀ L m s Q E B F X N T hk hd hu fun r n' h' tk' hp => hret r n' h' tk' (h r n' hp)
/- text Rx -/
theorem w_Rx : True := by
  w_top off
  exact trivial
theorem plainAttrs_pat : PlainAttrs "re.Pattern" :=
  ⟨⟨"object.__getattribute__", by rw [typeLookup_type, builtinLookup_eq_fast]; kernel_rfl, by decide +kernel⟩, by rw [typeLookup_type, builtinLookup_eq_fast]; kernel_rfl⟩
theorem slot_pat_search : Slot "re.Pattern" "search" "re.Pattern.search" :=
  .of (owner := "re.Pattern") (n := "search") (by rw [typeLookup_type, builtinLookup_eq_fast]; kernel_rfl) (by decide +kernel) (by decide +kernel) (by decide +kernel)
    (by first | exact .inl (by decide +kernel) | exact .inr (by decide +kernel)) (by rw [isSubtype_type]; kernel_rfl)
theorem type_pat_search : typeOf (.builtin "re.Pattern.search") = pure (.type "method_descriptor") := by show builtinType _ = _; rw [builtinType_eq_fast]; kernel_rfl
theorem entry_pat_search : entryFor table "re.Pattern.search" = some Builtin.«re.Pattern.search» := entryFor_of_tree (by kernel_rfl)
theorem args_pat_search (a b : Value) : argsOk "re.Pattern.search" ⟨[a, b], []⟩ := by unfold argsOk; kernel_rfl
theorem plain_pat_search : plainId "re.Pattern.search" = true := by decide +kernel
theorem wp_rules {M : Model} {A : Around} {E : Value → Shared → Prop} {s : Shared} {Q : PUnit → Shared → Prop} {c : Nat → Bool} {f : Nat → String} (h : Q ⟨⟩ s) :
    ∀ l : List Nat, wpAny M A (forIn l PUnit.unit fun i _ => if c i = true then do rule (f i); pure (ForInStep.yield PUnit.unit) else pure (ForInStep.yield PUnit.unit)) Q E s
  | [] => by rw [List.forIn_nil]; exact wpAny_pure h
  | i :: l => by
    rw [List.forIn_cons]
    refine wpAny_bind ?_
    split
    · exact wpAny_bind (wpAny_rule (wpAny_pure (wp_rules h l)))
    · exact wpAny_pure (wp_rules h l)
noncomputable def okc (c : Nat) : Bool := c == 9 || (32 ≤ c && c < 127)
noncomputable def okn (c : Nat) : Bool := 32 ≤ c && c < 127
theorem admitted_none (m : Sre.M) (clean : ∀ p, p < m.lim → ∀ seen, ∃ seen', Sre.inSet m.code (m.text.getD p 0) m.code.size 5 true seen = .ok (false, seen')) :
    ∀ fuel s seen, ∃ seen', Sre.M.admitted m fuel s seen = .ok (none, seen')
  | 0, s, seen => ⟨seen, rfl⟩
  | fuel + 1, s, seen => by
    unfold Sre.M.admitted
    split
    · exact ⟨_, rfl⟩
    · rename_i hlt
      obtain ⟨s1, e⟩ := clean s (by omega) seen
      rw [e]
      exact admitted_none m clean fuel (s + 1) s1
theorem drive_said {M : Model} {A : Around} {E : Value → Shared → Prop} {s : Shared} {Q : Option Sre.M → Shared → Prop} {m : Sre.M} (ha : m.answer = some false) (ho : m.outcome = none) (hf : m.frames = []) (h : Q none s) :
    wpAny M A (Builtin.Re.reRunToEnd m) Q E s := by
  have e1 : m.step = { m with outcome := some .failed } := by
    unfold Sre.M.step
    rw [ho, ha, hf]; rfl
  have e2 : m.runFor Builtin.Re.reTurnSteps = { m with outcome := some .failed } := by
    show m.runFor 4 = _
    unfold Sre.M.runFor
    rw [ho]
    simp only [Option.isSome_none, Bool.false_eq_true, if_false]
    rw [e1]
    unfold Sre.M.runFor
    simp only [Option.isSome_some, if_true]
  have e3 : Builtin.Re.reDrive (2 ^ 64) m = pure { m with outcome := some .failed } := by
    show Builtin.Re.reDrive ((2 ^ 64 - 1) + 1) m = _
    rw [Builtin.Re.reDrive]
    simp only [e2]
    rfl
  unfold Builtin.Re.reRunToEnd
  rw [e3]
  refine wpAny_bind (wpAny_pure ?_)
  refine wpAny_bind (wp_rules ?_ _)
  exact wpAny_pure h
noncomputable abbrev codeN : Array Nat := #[14, 10, 4, 1, 1, 22, 0, 31, 16, 127, 0, 13, 7, 22, 0, 31, 16, 127, 0, 1]
noncomputable abbrev codeV : Array Nat := #[14, 14, 4, 1, 1, 9, 4294966783, 0, 0, 2147483648, 0, 0, 0, 0, 0, 13, 11, 9, 4294966783, 0, 0, 2147483648, 0, 0, 0, 0, 0, 1]
theorem inSetN {c : Nat} (h : okn c = true) (seen : Sre.Seen) : ∃ seen', Sre.inSet codeN c codeN.size 5 true seen = .ok (false, seen') := by
  have e : Sre.inSet codeN c codeN.size 5 true seen = if (decide (0 ≤ c) && decide (c ≤ 31)) = true then .ok (true, seen.add 22) else
      if (c == 127) = true then .ok (true, (seen.add 22).add 16) else .ok (false, ((seen.add 22).add 16).add 0) := rfl
  rw [e]
  simp only [okn, Bool.and_eq_true, decide_eq_true_eq] at h
  rw [if_neg (by simp only [Bool.and_eq_true, decide_eq_true_eq]; omega), if_neg (by simp only [beq_iff_eq]; omega)]
  exact ⟨_, rfl⟩
theorem bitsV : ∀ c : Fin 128, okc c.val = true → ((codeV.getD (5 + (1 + c.val / 32)) 0).testBit (c.val % 32)) = false := by decide +kernel
theorem inSetV {c : Nat} (h : okc c = true) (seen : Sre.Seen) : ∃ seen', Sre.inSet codeV c codeV.size 5 true seen = .ok (false, seen') := by
  have e : Sre.inSet codeV c codeV.size 5 true seen = if (decide (c < 256) && (codeV.getD (5 + (1 + c / 32)) 0).testBit (c % 32)) = true then .ok (true, seen.add 9) else .ok (false, (seen.add 9).add 0) := rfl
  have hc : c < 128 := by
    simp only [okc, Bool.or_eq_true, beq_iff_eq, Bool.and_eq_true, decide_eq_true_eq] at h
    omega
  have hb := bitsV ⟨c, hc⟩ h
  rw [e]
  dsimp only at hb
  rw [hb, Bool.and_false, if_neg Bool.false_ne_true]
  exact ⟨_, rfl⟩
theorem no_adm {code text : Array Nat} {m : Sre.M} {fuel st : Nat} {seen : Sre.Seen} {r} (hc : ∀ p, p < text.size → ∀ seen, ∃ seen', Sre.inSet code (text.getD p 0) code.size 5 true seen = .ok (false, seen'))
    (h1 : m.code = code) (h2 : m.text = text) (h3 : m.lim ≤ text.size) (heq : Sre.M.admitted m fuel st seen = r) : ∃ s', r = .ok (none, s') := by
  subst h1 h2
  obtain ⟨s', e⟩ := admitted_none m (fun p hp seen => hc p (Nat.lt_of_lt_of_le hp h3) seen) fuel st seen
  exact ⟨s', heq.symm.trans e⟩
theorem search_said {code : Array Nat} {text : Array Nat} (hc : ∀ p, p < text.size → ∀ seen, ∃ seen', Sre.inSet code (text.getD p 0) code.size 5 true seen = .ok (false, seen'))
    (h2 : code.getD 2 0 = 4) (h0 : Sre.ops[code.getD 0 0]? = some .INFO) :
    (Sre.forSearch code text 0 0 (min (2 ^ 63 - 1) text.size) false).answer = some false ∧ (Sre.forSearch code text 0 0 (min (2 ^ 63 - 1) text.size) false).outcome = none ∧ (Sre.forSearch code text 0 0 (min (2 ^ 63 - 1) text.size) false).frames = [] := by
  unfold Sre.forSearch
  dsimp only
  split
  · exact ⟨rfl, rfl, rfl⟩
  · unfold Sre.M.attemptFrom
    have hf : ∀ m : Sre.M, m.code = code → m.hasFirstSet = true := fun m hm => by
      unfold Sre.M.hasFirstSet
      rw [hm, h0, h2]; rfl
    rw [hf _ rfl]
    simp only [Bool.not_true, Bool.false_eq_true, if_false]
    split
    · rename_i heq
      obtain ⟨s', e⟩ := no_adm (code := code) (text := text) hc (by rfl) (by rfl) (by exact Nat.min_le_right _ _) heq
      cases e
    · exact ⟨rfl, rfl, rfl⟩
    · rename_i heq
      obtain ⟨s', e⟩ := no_adm (code := code) (text := text) hc (by rfl) (by rfl) (by exact Nat.min_le_right _ _) heq
      cases e
section
variable {prog : Program} {w : World} {A : Around} {E : Value → Shared → Prop} {s : Shared}
theorem getM_search {p : Addr} {o : Obj} {pl : Sem Bool} {Q : Value × List Value → Shared → Prop} (ho : s.heap.get? p = some o) (hc : o.cls = .type "re.Pattern") (hd : o.dict = none)
    (h : Q (.builtin "re.Pattern.search", [.ref p]) s) : wpAny (model prog w) A (getMethod (.ref p) "search" pl) Q E s :=
  getMethod_builtin (T := "re.Pattern") ⟨o, ho, hc⟩ plainAttrs_pat slot_pat_search type_pat_search (fun a e => by cases e; exact ⟨o, ho, hd⟩) h
theorem call_search {p q : Addr} {oP oq : Obj} {vs xs : Array Value} {ep : Nat} {x : Str} {t : Tok} {code : Array Nat} {Q : Value → Shared → Prop}
    (hp : s.heap.get? p = some oP) (hcls : oP.cls = .type "re.Pattern") (hd : oP.data = .fields vs) (h5 : vs.getD 5 .none = .ref q) (h6 : vs.getD 6 .none = rawInt 0) (h2' : vs.getD 2 .none = rawInt 0)
    (hq : s.heap.get? q = some oq) (hdq : oq.data = .seq xs ep) (hcode : ((xs.map Builtin.Re.reRawOf).map (·.toNat)) = code)
    (hc : ∀ p, p < x.cps.size → ∀ seen, ∃ seen', Sre.inSet code (x.cps.getD p 0) code.size 5 true seen = .ok (false, seen'))
    (h2 : code.getD 2 0 = 4) (h0 : Sre.ops[code.getD 0 0]? = some .INFO)
    (h : Q .none s) : wpAny (model prog w) A (call (.builtin "re.Pattern.search") [.ref p, .str x t]) Q E s := by
  refine wpAny_call_entry slot_pat_search ⟨_, hp, hcls⟩ entry_pat_search ?_ (args_pat_search _ _)
  unfold Builtin.«re.Pattern.search»
  have hs := search_said (text := x.cps) hc h2 h0
  refine wpAny_bind (m := Builtin.Re.reTarget "re.Pattern.search" "search" ⟨[.ref p, .str x t], []⟩) ?_
  unfold Builtin.Re.reTarget
  dsimp only
  refine wpAny_bind (m := Builtin.Re.reNamed _ _ _ _ _ _) ?_
  have e1 : Builtin.Re.reNamed "re.Pattern.search" "search" ["string", "pos", "endpos"] 1 [Value.str x t] [] = pure [some (.str x t), none, none] := rfl
  rw [e1]
  refine wpAny_pure ?_
  dsimp only
  refine wpAny_bind (wpAny_pure ?_)
  refine wpAny_bind (wpAny_pure ?_)
  refine wpAny_bind (m := fieldsOf _) ?_
  unfold fieldsOf
  refine wpAny_bind (wpAny_load hp ?_)
  rw [hd]
  refine wpAny_pure ?_
  refine wpAny_bind (m := Builtin.Re.reTextOf _) ?_
  have e2 : Builtin.Re.reTextOf (.str x t) = pure (x.cps, 0) := rfl
  rw [e2]
  refine wpAny_pure ?_
  dsimp only
  rw [h6, h2', h5]
  have r0 : Builtin.Re.reRawNat (rawInt 0) = 0 := rfl
  rw [r0, if_neg (by decide), if_neg (by decide)]
  refine wpAny_bind (m := Builtin.Re.reNoCollectionInside _ _) ?_
  have e3 : Builtin.Re.reNoCollectionInside (.str x t) 0 = pure () := rfl
  rw [e3]
  refine wpAny_pure ?_
  refine wpAny_bind (m := Builtin.Re.reRawItems _) ?_
  unfold Builtin.Re.reRawItems
  refine wpAny_bind (m := seqItems? _) ?_
  unfold seqItems?
  refine wpAny_bind (wpAny_load hq ?_)
  rw [hdq]
  refine wpAny_pure (wpAny_pure (wpAny_pure ?_))
  dsimp only [Option.getD_some]
  rw [hcode]
  unfold Builtin.Re.reAnswer
  dsimp only
  have r1 : min (Int.toNat 0) x.cps.size = 0 := by simp
  have r2 : (2 ^ 63 - 1 : Int).toNat = 2 ^ 63 - 1 := by decide
  rw [r1, r2]
  refine wpAny_bind (drive_said hs.1 hs.2.1 hs.2.2 ?_)
  exact wpAny_pure ⟨_, rfl, h⟩
end
/- text C1 -/
theorem w_C1 : True := by
  w_top off
  exact trivial
section
noncomputable def OkV (x : Str) : Prop := ∀ p, p < x.cps.size → okc (x.cps.getD p 0) = true
noncomputable def OkN (x : Str) : Prop := ∀ p, p < x.cps.size → okn (x.cps.getD p 0) = true
section
variable {prog : Program} {w : World} {A : Around} {E : Value → Shared → Prop} {s : Shared} {h₀ : Heap} {L : Addr} {m : Str → Option Value} {K : Frag}
theorem getM_pat {p : Addr} {vs sl} {pl : Sem Bool} {Q : Value × List Value → Shared → Prop} (F : Fr h₀ L s.heap m) (X : K.In h₀) (ho : K.lookup p = some ⟨.type "re.Pattern", none, .fields vs, sl⟩)
    (h : Q (.builtin "re.Pattern.search", [.ref p]) s) : wpAny (model prog w) A (getMethod (.ref p) "search" pl) Q E s :=
  getM_search (F.keep _ _ (X _ _ ho)) rfl rfl h
theorem searchN {vs sl d2 c2 sl2} {x : Str} {t : Tok} {Q : Value → Shared → Prop} (F : Fr h₀ L s.heap m) (X : K.In h₀) (hx : OkN x)
    (hp : K.lookup 84 = some ⟨.type "re.Pattern", none, .fields vs, sl⟩) (hq : K.lookup 83 = some ⟨c2, none, d2, sl2⟩)
    (e : (vs.getD 5 .none = .ref 83 ∧ vs.getD 6 .none = rawInt 0 ∧ vs.getD 2 .none = rawInt 0) ∧ d2 = .seq (List.map (fun (n : Nat) => rawInt (Int.ofNat n)) codeN.toList).toArray 0)
    (h : Q .none s) : wpAny (model prog w) A (call (.builtin "re.Pattern.search") [.ref 84, .str x t]) Q E s := by
  refine call_search (code := codeN) (F.keep _ _ (X _ _ hp)) rfl rfl e.1.1 e.1.2.1 e.1.2.2 (F.keep _ _ (X _ _ hq)) e.2 (by decide +kernel) (fun p hp seen => inSetN (hx p hp) seen) rfl rfl h
theorem searchV {vs sl d2 c2 sl2} {x : Str} {t : Tok} {Q : Value → Shared → Prop} (F : Fr h₀ L s.heap m) (X : K.In h₀) (hx : OkV x)
    (hp : K.lookup 89 = some ⟨.type "re.Pattern", none, .fields vs, sl⟩) (hq : K.lookup 88 = some ⟨c2, none, d2, sl2⟩)
    (e : (vs.getD 5 .none = .ref 88 ∧ vs.getD 6 .none = rawInt 0 ∧ vs.getD 2 .none = rawInt 0) ∧ d2 = .seq (List.map (fun (n : Nat) => rawInt (Int.ofNat n)) codeV.toList).toArray 0)
    (h : Q .none s) : wpAny (model prog w) A (call (.builtin "re.Pattern.search") [.ref 89, .str x t]) Q E s := by
  refine call_search (code := codeV) (F.keep _ _ (X _ _ hp)) rfl rfl e.1.1 e.1.2.1 e.1.2.2 (F.keep _ _ (X _ _ hq)) e.2 (by decide +kernel) (fun p hp seen => inSetV (hx p hp) seen) rfl rfl h
end
local macro_rules | `(tactic| walk_at "getMethod ref") => `(tactic| (k_here; k_dflt (refine' getM_pat ?F ?X ?l ?_; (case F => k_asm); (case X => k_asm); (case l => k_is); k_whole)))
local macro_rules | `(tactic| walk_at "call builtin:re.Pattern.search") => `(tactic| (k_here; k_dflt (first
  | (refine' searchN ?F ?X ?c ?l ?l2 ?e ?_; (case F => k_asm); (case X => k_asm); (case l => k_is); (case l2 => k_is); (case c => assumption); (case e => exact ⟨⟨rfl, rfl, rfl⟩, rfl⟩); k_whole)
  | (refine' searchV ?F ?X ?c ?l ?l2 ?e ?_; (case F => k_asm); (case X => k_asm); (case l => k_is); (case l2 => k_is); (case c => assumption); (case e => exact ⟨⟨rfl, rfl, rfl⟩, rfl⟩); k_whole))))
theorem convN (w : World) (sf : Value) (x : Str) (t : Tok) (news) (hx : OkN x) : Cx w 5 40 news (call (.ref 119) [sf, .str x t] [("name", .bool true)]) (fun r n' => n' = news ∧ r = .str x t) := by
  unfold Cx
  k_fill
  intro loose mean mg mb dp un gd cn cs a ccd cl outer A₀ base h₀ L m s Q E B F X N T hk hd hu hret
  obtain ⟨s1, s2, s3, s4, s5⟩ := s
  dsimp only at F N hret
  refine wpAny_call ?_
  k_dflt cell_enter
  k_steps
  all_goals (exact hret _ _ _ _ ⟨rfl, rfl⟩ (by k_asm) (by k_asm))
theorem convV (w : World) (sf : Value) (x : Str) (t : Tok) (news) (hx : OkV x) : Cx w 5 40 news (call (.ref 119) [sf, .str x t] [("name", .bool false)]) (fun r n' => n' = news ∧ r = .str x t) := by
  unfold Cx
  k_fill
  intro loose mean mg mb dp un gd cn cs a ccd cl outer A₀ base h₀ L m s Q E B F X N T hk hd hu hret
  obtain ⟨s1, s2, s3, s4, s5⟩ := s
  dsimp only at F N hret
  refine wpAny_call ?_
  k_dflt cell_enter
  k_steps
  all_goals (exact hret _ _ _ _ ⟨rfl, rfl⟩ (by k_asm) (by k_asm))
end
/- text Esc -/
theorem w_Esc : True := by
  w_top off
  exact trivial
section
open Builtin Builtin.Str
/-- replacing one sign -/
noncomputable def repl (c : Nat) (z : List Nat) (l : List Nat) : List Nat := l.flatMap fun k => if k = c then z else [k]
theorem repl_append (c : Nat) (z a b : List Nat) : repl c z (a ++ b) = repl c z a ++ repl c z b := List.flatMap_append
theorem repl_free (c : Nat) (z : List Nat) : ∀ l : List Nat, c ∉ l → repl c z l = l
  | [], _ => rfl
  | k :: r, h => by
    have h1 : ¬ k = c := fun e => h (e ▸ List.mem_cons_self ..)
    have h2 : c ∉ r := fun m => h (List.mem_cons_of_mem _ m)
    unfold repl
    rw [List.flatMap_cons, if_neg h1]
    exact congrArg (k :: ·) (repl_free c z r h2)
theorem repl_one (c : Nat) (z : List Nat) : repl c z [c] = z := by simp [repl]
theorem repl_join (c : Nat) (z : Str) : ∀ parts : List Str, (∀ p ∈ parts, c ∉ p.cps.toList) → repl c z.cps.toList (Str.join ⟨#[c]⟩ parts).cps.toList = (Str.join z parts).cps.toList
  | [], _ => rfl
  | [p], h => repl_free c _ _ (h p (List.mem_singleton.mpr rfl))
  | p :: q :: r, h => by
    have ih := repl_join c z (q :: r) fun a ha => h a (List.mem_cons_of_mem _ ha)
    show repl c _ (p ++ ⟨#[c]⟩ ++ Str.join ⟨#[c]⟩ (q :: r)).cps.toList = (p ++ z ++ Str.join z (q :: r)).cps.toList
    simp only [Str.cps_append, Array.toList_append]
    rw [repl_append, repl_append, ih, repl_free c _ _ (h p (List.mem_cons_self ..))]
    show p.cps.toList ++ repl c _ [c] ++ _ = _
    rw [repl_one]
theorem replace_repl (x z : Str) (c : Nat) : (Txt.replace x ⟨#[c]⟩ z).cps.toList = repl c z.cps.toList x.cps.toList := by
  rw [StrLaws.replace_one, ← repl_join c _ _ (StrLaws.split_free x c), StrLaws.join_split]
theorem notIn_free (x : Str) (c : Nat) (h : (occurrences x ⟨#[c]⟩ 0 x.length 1).isEmpty = true) : c ∉ x.cps.toList := by
  have := StrLaws.found_one x c
  rw [h] at this
  simpa using this.symm
/-- the hand by a table of signs -/
noncomputable def handL (refs : List (Nat × List Nat)) (l : List Nat) : List Nat := l.flatMap fun k => (refs.lookup k).getD [k]
theorem handL_nil (l : List Nat) : handL [] l = l := by
  unfold handL
  induction l with
  | nil => rfl
  | cons k r ih => rw [List.flatMap_cons, ih]; rfl
theorem handL_length {refs : List (Nat × List Nat)} (h : (refs.all fun p => decide (p.2.length ≤ 6)) = true) : ∀ l : List Nat, (handL refs l).length ≤ 6 * l.length
  | [] => Nat.le_refl _
  | k :: r => by
    have ih := handL_length h r
    unfold handL at ih ⊢
    rw [List.flatMap_cons, List.length_append, List.length_cons]
    have h1 : ((refs.lookup k).getD [k]).length ≤ 6 := by
      cases e : refs.lookup k with
      | none => simp
      | some z =>
        have hm : (k, z) ∈ refs := by
          clear ih h
          induction refs with
          | nil => cases e
          | cons p q ihq =>
            obtain ⟨a, b⟩ := p
            rw [List.lookup_cons] at e
            cases hb : k == a with
            | true => rw [hb] at e; cases e; rw [eq_of_beq hb]; exact .head _
            | false => rw [hb] at e; exact .tail _ (ihq e)
        exact of_decide_eq_true (List.all_eq_true.mp h _ hm)
    omega
theorem lookup_snoc {refs : List (Nat × List Nat)} {c : Nat} {z : List Nat} (k : Nat) : (refs ++ [(c, z)]).lookup k = (match refs.lookup k with | some v => some v | none => if k = c then some z else none) := by
  induction refs with
  | nil =>
    rw [List.nil_append, List.lookup_cons]
    by_cases h : k = c
    · subst h; simp
    · have : (k == c) = false := by simp [h]
      rw [this]; simp [h]
  | cons p q ih =>
    obtain ⟨a, b⟩ := p
    rw [List.cons_append, List.lookup_cons, List.lookup_cons]
    cases hb : k == a with
    | true => rfl
    | false => exact ih
theorem handL_snoc {refs : List (Nat × List Nat)} {c : Nat} {z : List Nat} (h : (refs.all fun p => !p.2.contains c && p.1 != c) = true) : ∀ l : List Nat, repl c z (handL refs l) = handL (refs ++ [(c, z)]) l
  | [] => rfl
  | k :: r => by
    have ih := handL_snoc (z := z) h r
    unfold handL at ih ⊢
    rw [List.flatMap_cons, List.flatMap_cons, repl_append, ih, lookup_snoc]
    congr 1
    cases e : refs.lookup k with
    | none =>
      by_cases hk : k = c
      · subst hk; simp [repl]
      · simp [repl, hk]
    | some v =>
      have hm : (k, v) ∈ refs := by
        clear ih h
        induction refs with
        | nil => cases e
        | cons p q ihq =>
          obtain ⟨a, b⟩ := p
          rw [List.lookup_cons] at e
          cases hb : k == a with
          | true => rw [hb] at e; cases e; rw [eq_of_beq hb]; exact .head _
          | false => rw [hb] at e; exact .tail _ (ihq e)
      have h1 := List.all_eq_true.mp h _ hm
      simp only [Bool.and_eq_true, Bool.not_eq_true', List.contains_eq_mem, decide_eq_false_iff_not] at h1
      exact repl_free c z v h1.1
theorem gen_toks1 {α : Type} {M : Model} {A : Around} {E : Value → Shared → Prop} {t : Sem α} {Q : α → Shared → Prop} {h : Heap} {g d o} {X : Nat} (k : ∀ tk, 0 < tk → wpAny M A t Q E ⟨h, g, d, tk, o⟩) : wpAny M A t Q E ⟨h, g, d, X + 1, o⟩ := k _ (Nat.succ_pos _)
theorem gen_toks {α : Type} {M : Model} {A : Around} {E : Value → Shared → Prop} {t : Sem α} {Q : α → Shared → Prop} {h : Heap} {g d o} {X Y : Nat} (k : ∀ tk, 0 < tk → wpAny M A t Q E ⟨h, g, d, tk, o⟩) (p : 0 < X + Y) : wpAny M A t Q E ⟨h, g, d, X + Y, o⟩ := k _ p
section
variable {prog : Program} {w : World} {A : Around} {E : Value → Shared → Prop} {s : Shared} {x y z : Str} {t u v : Tok} {Q : Value → Shared → Prop}
theorem replaceM (hu : u ≠ 0) (hv : v ≠ 0) (huv : u ≠ v) (hyz : (y == z) = false) (hb : x.length + (x.length + 1) * z.length ≤ 16777216)
    (hq : ∀ t' k, s.toks ≤ k → Q (.str (Txt.replace x y z) t') { s with toks := k }) : wpAny (model prog w) A (call (.builtin "str.replace") [.str x t, .str y u, .str z v]) Q E s := by
  have e : (2 : Nat) ^ 24 = 16777216 := by decide
  have hl : tooLong (x.length + (occurrences x y 0 x.length (x.length + 1)).length * z.length) = false := by
    have h1 := StrLaws.occ_length_le x y 0 x.length (x.length + 1)
    have h2 : (occurrences x y 0 x.length (x.length + 1)).length * z.length ≤ (x.length + 1) * z.length := Nat.mul_le_mul_right _ h1
    unfold tooLong sizeLine
    exact decide_eq_false (by omega)
  refine call_gives F.slot_str_replace (typeIs_str _ _ _) F.entry_str_replace (F.args_str_replace_3 _ _ _)
    (gives_str_replace x y z t u v fun _ => ⟨by simp [hu, hv], by simp [huv], hyz, hl⟩) ?_
  have hq' := hq
  unfold Txt.replace at hq'
  cases hc : ((occurrences x y 0 x.length (x.length + 1)).isEmpty || (y.length == 0 && z.length == 0))
  · rw [hc] at hq'
    simp only [Bool.false_eq_true, if_false] at hq' ⊢
    exact ⟨fits_replaced y hb, hq' _ _ (Nat.le_succ _)⟩
  · rw [hc] at hq'
    simp only [if_true] at hq' ⊢
    exact hq' t s.toks (Nat.le_refl _)
end
set_option linter.unusedVariables false
noncomputable def Stop (p : Prop) : Prop := p
theorem Stop.mk {p : Prop} (h : p) : Stop p := h
theorem Stop.of {p : Prop} (h : Stop p) : p := h
theorem Fr.same {h₀ h : Heap} {L : Addr} {m : Str → Option Value} {x : Str} {v : Value} (F : Fr h₀ L h m) (hm : m x = some v) : Fr h₀ L h (fun y => if y = x then some v else m y) := by
  have e : (fun y => if y = x then some v else m y) = m := by
    funext y
    by_cases h : y = x
    · rw [if_pos h, h, hm]
    · rw [if_neg h]
  rw [e]; exact F
theorem hand_small {y : Str} {X : List Nat} {refs : List (Nat × List Nat)} (hy : y.cps.toList = handL refs X) (h : (refs.all fun p => decide (p.2.length ≤ 6)) = true) (hX : X.length ≤ 10000) : y.length ≤ 60000 := by
  have e : y.length = y.cps.toList.length := by simp; rfl
  have := handL_length h X
  rw [e, hy]; omega
theorem replaceS {prog : Program} {w : World} {A : Around} {E : Value → Shared → Prop} {s : Shared} {x y z : Str} {t u v : Nat} {Q : Value → Shared → Prop} (hu : u ≠ 0) (hv : v ≠ 0) (huv : u ≠ v) (hyz : (y == z) = false) (hb : x.length ≤ 60000) (hz : z.length ≤ 6)
    (hq : ∀ t' k, s.toks ≤ k → Q (.str (Txt.replace x y z) t') { s with toks := k }) : wpAny (model prog w) A (call (.builtin "str.replace") [.str x t, .str y u, .str z v]) Q E s :=
  replaceM hu hv huv hyz (by
    have h1 : (x.length + 1) * z.length ≤ (x.length + 1) * 6 := Nat.mul_le_mul_left _ hz
    omega) hq
theorem Fr.ab {h₀ h : Heap} {L : Addr} {m : Str → Option Value} {x : Str} {v : Value} (F : Fr h₀ L h m) (hm : m x = some v) : ∃ m0 : Str → Option Value, Fr h₀ L h (fun y => if y = x then some v else m0 y) := ⟨m, Fr.same F hm⟩
noncomputable def escSc : Scope := { kind := .function, names := [("text", .local), ("TypeError", .globalImplicit), ("AttributeError", .globalImplicit), ("_raise_serialization_error", .globalImplicit)], isGenerator := false, isCoroutine := false }
local macro_rules | `(tactic| walk_at "execs cons") => `(tactic| (k_here; (with_reducible refine gen_toks1 ?_); intro tk htk))
local macro_rules | `(tactic| walk_at "execs nil") => `(tactic| (k_here; (with_reducible refine gen_toks1 ?_); intro tk htk))
local macro_rules | `(tactic| walk_at "exec If") => `(tactic| (k_here; refine Stop.of ?_))
local macro_rules | `(tactic| walk_at "call builtin:str.replace") => `(tactic| (k_here; (refine replaceS ?a ?b ?c ?d ?e ?f ?_; (case a => omega); (case b => omega); (case c => omega); (case d => assumption); (case e => assumption); (case f => assumption)); intro t' k' hk'; (try dsimp only at hk')))
noncomputable def refs0 : List (Nat × List Nat) := [(38, [38, 97, 109, 112, 59]), (60, [38, 108, 116, 59]), (62, [38, 103, 116, 59])]
noncomputable def refs1 : List (Nat × List Nat) := [(38, [38, 97, 109, 112, 59]), (60, [38, 108, 116, 59]), (62, [38, 103, 116, 59]), (13, [38, 35, 120, 68, 59])]
noncomputable def refs2 : List (Nat × List Nat) := [(38, [38, 97, 109, 112, 59]), (60, [38, 108, 116, 59]), (62, [38, 103, 116, 59]), (34, [38, 113, 117, 111, 116, 59]), (13, [38, 35, 49, 51, 59]), (10, [38, 35, 49, 48, 59]), (9, [38, 35, 48, 57, 59])]
noncomputable def refs3 : List (Nat × List Nat) := [(38, [38, 97, 109, 112, 59]), (60, [38, 108, 116, 59]), (34, [38, 113, 117, 111, 116, 59]), (9, [38, 35, 120, 57, 59]), (10, [38, 35, 120, 65, 59]), (13, [38, 35, 120, 68, 59])]
noncomputable def refs4 : List (Nat × List Nat) := [(38, [38, 97, 109, 112, 59]), (62, [38, 103, 116, 59]), (34, [38, 113, 117, 111, 116, 59])]
noncomputable def okEsc (refs : List (Nat × List Nat)) (k : Nat) (z : List Nat) (c r : Str) : Bool :=
  (refs.all fun p => !p.2.contains k && p.1 != k) && (refs.all fun p => decide (p.2.length ≤ 6)) && c.cps.toList == [k] && r.cps.toList == z && !(c == r) && decide (r.length ≤ 6)
theorem Fr.over {h₀ h : Heap} {L : Addr} {m : Str → Option Value} {x : Str} {v u : Value} (F : Fr h₀ L h (fun z => if z = x then some v else if z = x then some u else m z)) : Fr h₀ L h (fun y => if y = x then some v else m y) := by
  have e : (fun z => if z = x then some v else if z = x then some u else m z) = (fun y => if y = x then some v else m y) := by
    funext y
    by_cases h : y = x
    · rw [if_pos h, if_pos h]
    · rw [if_neg h, if_neg h, if_neg h]
  rw [e] at F; exact F
theorem esc_one {w : World} {dp un : Nat} {gd : Option (List Code)} {cn : Str} {cs : Scope} {L a : Addr} {ccd : Value} {cl : List (Str × Addr)} {outer : List Env} {fn : Str} {ad : Addr} {cv : Value} {g' h' : Heap} {L' : Addr} {m0 : Str → Option Value} {news : List (Addr × Obj)} {y c r : Str} {t : Tok} {gens drawn tk os} {Q : Flow → Shared → Prop} {E : Value → Shared → Prop} {X : List Nat} {p1 p2 p3 p4 p5 p6 p7 p8 p9 p10 p11 : Pos} {loose : List Str} {mean : ExcName → Option Value} {mg mb : Str → Option Value} {pl : Sem Bool}
    (refs : List (Nat × List Nat)) (k : Nat) (z : List Nat) (ok : okEsc refs k z c r = true) (F : Fr g' L' h' (fun y' => if y' = "text" then some (.str y t) else m0 y')) (N : News g' L' h' news) (XX : Frag.In (hd.heap_1 w.params) g') (T : Top topProg loose mean mg mb g') (hy : y.cps.toList = handL refs X) (hX : X.length ≤ 10000)
    (next : ∀ y' t' h'' tk', y'.cps.toList = handL (refs ++ [(k, z)]) X → Fr g' L' h'' (fun x => if x = "text" then some (.str y' t') else m0 x) → News g' L' h'' news → Q .next ⟨h'', gens, drawn, tk', os⟩)
    (he : eval (.Call (.Attribute (.Name "text" p5) "replace" p6) [.Constant (.str c) 0 p7, .Constant (.str r) 0 p8] [] p9) (envOf fn escSc L' ad cv) = (do
      let ov ← eval (.Name "text" p5) (envOf fn escSc L' ad cv)
      standAt p6.atName
      let (f, first) ← holding [ov] (getMethod ov "replace" pl)
      callWith p9 f first (backTo p9 (starEach [.Constant (.str c) 0 p7, .Constant (.str r) 0 p8] (envOf fn escSc L' ad cv))) []) := by rfl) :
    wpAny (model PySem.Challenge.rw_uk0026_01.row.prog w) ((ktrTop dp un gd cn cs L a ccd cl outer).deeper (envOf fn escSc L' ad cv)) (exec (.If (.Compare (.Constant (.str c) 0 p1) [.In] [.Name "text" p2] p3) [.Assign [.Name "text" p4] (.Call (.Attribute (.Name "text" p5) "replace" p6) [.Constant (.str c) 0 p7, .Constant (.str r) 0 p8] [] p9) p10] [] p11) (envOf fn escSc L' ad cv)) Q E ⟨h', gens, drawn, tk, os⟩ := by
  unfold okEsc at ok
  simp only [Bool.and_eq_true, beq_iff_eq, Bool.not_eq_true', decide_eq_true_eq] at ok
  obtain ⟨⟨⟨⟨⟨hfree, hsix⟩, hc⟩, hr⟩, hcr⟩, hr6⟩ := ok
  obtain rfl : c = ⟨#[k]⟩ := by
    obtain ⟨⟨l⟩⟩ := c
    exact congrArg (fun l => (⟨⟨l⟩⟩ : Str)) hc
  have hlen := hand_small hy hsix hX
  k_fill
  refine wpAny_If ?_
  k_steps
  · refine next y t h' _ ?_ F N
    rw [← handL_snoc hfree, ← hy, repl_free _ _ _ (notIn_free y k (by assumption)), hy]
  · refine MethodCall_ ?_ he
    k_steps
    refine next _ _ _ _ ?_ (Fr.over (by k_asm)) (by k_asm)
    rw [← handL_snoc hfree, ← hy, replace_repl, hr]
theorem escape_cdata (w : World) (x : Str) (t : Tok) (news) (hx : x.cps.toList.length ≤ 10000) : Cx w 5 40 news (call (.ref 238) [.str x t]) (fun r n' => n' = news ∧ ∃ y t', r = .str y t' ∧ y.cps.toList = handL refs0 x.cps.toList) := by
  unfold Cx
  k_fill
  intro loose mean mg mb dp un gd cn cs a ccd cl outer A₀ base h₀ L m s Q E B F X N T hk hd hu hret
  obtain ⟨s1, s2, s3, s4, s5⟩ := s
  dsimp only at F N hret
  refine wpAny_call ?_
  k_dflt cell_enter
  rename Fr _ _ _ (fun _ => List.lookup _ _) => fF
  obtain ⟨m0, F0⟩ := Fr.ab (x := "text") (v := .str x t) fF rfl
  clear fF
  k_steps
  refine Stop.mk (esc_one [] 38 [38, 97, 109, 112, 59] (by decide +kernel) F0 (by k_asm) (by k_asm) (by k_asm) (handL_nil _).symm hx ?_)
  intro y1 t1 h1 tk1 hy1 F1 N1
  dsimp only
  k_steps
  refine Stop.mk (esc_one [(38, [38, 97, 109, 112, 59])] 60 [38, 108, 116, 59] (by decide +kernel) F1 (by k_asm) (by k_asm) (by k_asm) hy1 hx ?_)
  intro y2 t2 h2 tk2 hy2 F2 N2
  dsimp only
  k_steps
  refine Stop.mk (esc_one [(38, [38, 97, 109, 112, 59]), (60, [38, 108, 116, 59])] 62 [38, 103, 116, 59] (by decide +kernel) F2 (by k_asm) (by k_asm) (by k_asm) hy2 hx ?_)
  intro y3 t3 h3 tk3 hy3 F3 N3
  dsimp only
  k_steps
  exact hret _ _ _ _ ⟨rfl, _, _, rfl, by assumption⟩ (by k_asm) (by k_asm)
theorem escape_cdata_c14n (w : World) (x : Str) (t : Tok) (news) (hx : x.cps.toList.length ≤ 10000) : Cx w 5 40 news (call (.ref 259) [.str x t]) (fun r n' => n' = news ∧ ∃ y t', r = .str y t' ∧ y.cps.toList = handL refs1 x.cps.toList) := by
  unfold Cx
  k_fill
  intro loose mean mg mb dp un gd cn cs a ccd cl outer A₀ base h₀ L m s Q E B F X N T hk hd hu hret
  obtain ⟨s1, s2, s3, s4, s5⟩ := s
  dsimp only at F N hret
  refine wpAny_call ?_
  k_dflt cell_enter
  rename Fr _ _ _ (fun _ => List.lookup _ _) => fF
  obtain ⟨m0, F0⟩ := Fr.ab (x := "text") (v := .str x t) fF rfl
  clear fF
  k_steps
  refine Stop.mk (esc_one [] 38 [38, 97, 109, 112, 59] (by decide +kernel) F0 (by k_asm) (by k_asm) (by k_asm) (handL_nil _).symm hx ?_)
  intro y1 t1 h1 tk1 hy1 F1 N1
  dsimp only
  k_steps
  refine Stop.mk (esc_one [(38, [38, 97, 109, 112, 59])] 60 [38, 108, 116, 59] (by decide +kernel) F1 (by k_asm) (by k_asm) (by k_asm) hy1 hx ?_)
  intro y2 t2 h2 tk2 hy2 F2 N2
  dsimp only
  k_steps
  refine Stop.mk (esc_one [(38, [38, 97, 109, 112, 59]), (60, [38, 108, 116, 59])] 62 [38, 103, 116, 59] (by decide +kernel) F2 (by k_asm) (by k_asm) (by k_asm) hy2 hx ?_)
  intro y3 t3 h3 tk3 hy3 F3 N3
  dsimp only
  k_steps
  refine Stop.mk (esc_one [(38, [38, 97, 109, 112, 59]), (60, [38, 108, 116, 59]), (62, [38, 103, 116, 59])] 13 [38, 35, 120, 68, 59] (by decide +kernel) F3 (by k_asm) (by k_asm) (by k_asm) hy3 hx ?_)
  intro y4 t4 h4 tk4 hy4 F4 N4
  dsimp only
  k_steps
  exact hret _ _ _ _ ⟨rfl, _, _, rfl, by assumption⟩ (by k_asm) (by k_asm)
theorem escape_attrib (w : World) (x : Str) (t : Tok) (news) (hx : x.cps.toList.length ≤ 10000) : Cx w 5 40 news (call (.ref 245) [.str x t]) (fun r n' => n' = news ∧ ∃ y t', r = .str y t' ∧ y.cps.toList = handL refs2 x.cps.toList) := by
  unfold Cx
  k_fill
  intro loose mean mg mb dp un gd cn cs a ccd cl outer A₀ base h₀ L m s Q E B F X N T hk hd hu hret
  obtain ⟨s1, s2, s3, s4, s5⟩ := s
  dsimp only at F N hret
  refine wpAny_call ?_
  k_dflt cell_enter
  rename Fr _ _ _ (fun _ => List.lookup _ _) => fF
  obtain ⟨m0, F0⟩ := Fr.ab (x := "text") (v := .str x t) fF rfl
  clear fF
  k_steps
  refine Stop.mk (esc_one [] 38 [38, 97, 109, 112, 59] (by decide +kernel) F0 (by k_asm) (by k_asm) (by k_asm) (handL_nil _).symm hx ?_)
  intro y1 t1 h1 tk1 hy1 F1 N1
  dsimp only
  k_steps
  refine Stop.mk (esc_one [(38, [38, 97, 109, 112, 59])] 60 [38, 108, 116, 59] (by decide +kernel) F1 (by k_asm) (by k_asm) (by k_asm) hy1 hx ?_)
  intro y2 t2 h2 tk2 hy2 F2 N2
  dsimp only
  k_steps
  refine Stop.mk (esc_one [(38, [38, 97, 109, 112, 59]), (60, [38, 108, 116, 59])] 62 [38, 103, 116, 59] (by decide +kernel) F2 (by k_asm) (by k_asm) (by k_asm) hy2 hx ?_)
  intro y3 t3 h3 tk3 hy3 F3 N3
  dsimp only
  k_steps
  refine Stop.mk (esc_one [(38, [38, 97, 109, 112, 59]), (60, [38, 108, 116, 59]), (62, [38, 103, 116, 59])] 34 [38, 113, 117, 111, 116, 59] (by decide +kernel) F3 (by k_asm) (by k_asm) (by k_asm) hy3 hx ?_)
  intro y4 t4 h4 tk4 hy4 F4 N4
  dsimp only
  k_steps
  refine Stop.mk (esc_one [(38, [38, 97, 109, 112, 59]), (60, [38, 108, 116, 59]), (62, [38, 103, 116, 59]), (34, [38, 113, 117, 111, 116, 59])] 13 [38, 35, 49, 51, 59] (by decide +kernel) F4 (by k_asm) (by k_asm) (by k_asm) hy4 hx ?_)
  intro y5 t5 h5 tk5 hy5 F5 N5
  dsimp only
  k_steps
  refine Stop.mk (esc_one [(38, [38, 97, 109, 112, 59]), (60, [38, 108, 116, 59]), (62, [38, 103, 116, 59]), (34, [38, 113, 117, 111, 116, 59]), (13, [38, 35, 49, 51, 59])] 10 [38, 35, 49, 48, 59] (by decide +kernel) F5 (by k_asm) (by k_asm) (by k_asm) hy5 hx ?_)
  intro y6 t6 h6 tk6 hy6 F6 N6
  dsimp only
  k_steps
  refine Stop.mk (esc_one [(38, [38, 97, 109, 112, 59]), (60, [38, 108, 116, 59]), (62, [38, 103, 116, 59]), (34, [38, 113, 117, 111, 116, 59]), (13, [38, 35, 49, 51, 59]), (10, [38, 35, 49, 48, 59])] 9 [38, 35, 48, 57, 59] (by decide +kernel) F6 (by k_asm) (by k_asm) (by k_asm) hy6 hx ?_)
  intro y7 t7 h7 tk7 hy7 F7 N7
  dsimp only
  k_steps
  exact hret _ _ _ _ ⟨rfl, _, _, rfl, by assumption⟩ (by k_asm) (by k_asm)
theorem escape_attrib_c14n (w : World) (x : Str) (t : Tok) (news) (hx : x.cps.toList.length ≤ 10000) : Cx w 5 40 news (call (.ref 266) [.str x t]) (fun r n' => n' = news ∧ ∃ y t', r = .str y t' ∧ y.cps.toList = handL refs3 x.cps.toList) := by
  unfold Cx
  k_fill
  intro loose mean mg mb dp un gd cn cs a ccd cl outer A₀ base h₀ L m s Q E B F X N T hk hd hu hret
  obtain ⟨s1, s2, s3, s4, s5⟩ := s
  dsimp only at F N hret
  refine wpAny_call ?_
  k_dflt cell_enter
  rename Fr _ _ _ (fun _ => List.lookup _ _) => fF
  obtain ⟨m0, F0⟩ := Fr.ab (x := "text") (v := .str x t) fF rfl
  clear fF
  k_steps
  refine Stop.mk (esc_one [] 38 [38, 97, 109, 112, 59] (by decide +kernel) F0 (by k_asm) (by k_asm) (by k_asm) (handL_nil _).symm hx ?_)
  intro y1 t1 h1 tk1 hy1 F1 N1
  dsimp only
  k_steps
  refine Stop.mk (esc_one [(38, [38, 97, 109, 112, 59])] 60 [38, 108, 116, 59] (by decide +kernel) F1 (by k_asm) (by k_asm) (by k_asm) hy1 hx ?_)
  intro y2 t2 h2 tk2 hy2 F2 N2
  dsimp only
  k_steps
  refine Stop.mk (esc_one [(38, [38, 97, 109, 112, 59]), (60, [38, 108, 116, 59])] 34 [38, 113, 117, 111, 116, 59] (by decide +kernel) F2 (by k_asm) (by k_asm) (by k_asm) hy2 hx ?_)
  intro y3 t3 h3 tk3 hy3 F3 N3
  dsimp only
  k_steps
  refine Stop.mk (esc_one [(38, [38, 97, 109, 112, 59]), (60, [38, 108, 116, 59]), (34, [38, 113, 117, 111, 116, 59])] 9 [38, 35, 120, 57, 59] (by decide +kernel) F3 (by k_asm) (by k_asm) (by k_asm) hy3 hx ?_)
  intro y4 t4 h4 tk4 hy4 F4 N4
  dsimp only
  k_steps
  refine Stop.mk (esc_one [(38, [38, 97, 109, 112, 59]), (60, [38, 108, 116, 59]), (34, [38, 113, 117, 111, 116, 59]), (9, [38, 35, 120, 57, 59])] 10 [38, 35, 120, 65, 59] (by decide +kernel) F4 (by k_asm) (by k_asm) (by k_asm) hy4 hx ?_)
  intro y5 t5 h5 tk5 hy5 F5 N5
  dsimp only
  k_steps
  refine Stop.mk (esc_one [(38, [38, 97, 109, 112, 59]), (60, [38, 108, 116, 59]), (34, [38, 113, 117, 111, 116, 59]), (9, [38, 35, 120, 57, 59]), (10, [38, 35, 120, 65, 59])] 13 [38, 35, 120, 68, 59] (by decide +kernel) F5 (by k_asm) (by k_asm) (by k_asm) hy5 hx ?_)
  intro y6 t6 h6 tk6 hy6 F6 N6
  dsimp only
  k_steps
  exact hret _ _ _ _ ⟨rfl, _, _, rfl, by assumption⟩ (by k_asm) (by k_asm)
theorem escape_attrib_html (w : World) (x : Str) (t : Tok) (news) (hx : x.cps.toList.length ≤ 10000) : Cx w 5 40 news (call (.ref 252) [.str x t]) (fun r n' => n' = news ∧ ∃ y t', r = .str y t' ∧ y.cps.toList = handL refs4 x.cps.toList) := by
  unfold Cx
  k_fill
  intro loose mean mg mb dp un gd cn cs a ccd cl outer A₀ base h₀ L m s Q E B F X N T hk hd hu hret
  obtain ⟨s1, s2, s3, s4, s5⟩ := s
  dsimp only at F N hret
  refine wpAny_call ?_
  k_dflt cell_enter
  rename Fr _ _ _ (fun _ => List.lookup _ _) => fF
  obtain ⟨m0, F0⟩ := Fr.ab (x := "text") (v := .str x t) fF rfl
  clear fF
  k_steps
  refine Stop.mk (esc_one [] 38 [38, 97, 109, 112, 59] (by decide +kernel) F0 (by k_asm) (by k_asm) (by k_asm) (handL_nil _).symm hx ?_)
  intro y1 t1 h1 tk1 hy1 F1 N1
  dsimp only
  k_steps
  refine Stop.mk (esc_one [(38, [38, 97, 109, 112, 59])] 62 [38, 103, 116, 59] (by decide +kernel) F1 (by k_asm) (by k_asm) (by k_asm) hy1 hx ?_)
  intro y2 t2 h2 tk2 hy2 F2 N2
  dsimp only
  k_steps
  refine Stop.mk (esc_one [(38, [38, 97, 109, 112, 59]), (62, [38, 103, 116, 59])] 34 [38, 113, 117, 111, 116, 59] (by decide +kernel) F2 (by k_asm) (by k_asm) (by k_asm) hy2 hx ?_)
  intro y3 t3 h3 tk3 hy3 F3 N3
  dsimp only
  k_steps
  exact hret _ _ _ _ ⟨rfl, _, _, rfl, by assumption⟩ (by k_asm) (by k_asm)
end
/- text Tb -/
theorem w_Tb : True := by
  w_top off
  exact trivial
noncomputable abbrev chr (c : Nat) : Str := ⟨#[c]⟩
/-- the codes of the names: A to J, a to j -/
noncomputable def Nm (c : Nat) : Prop := (65 ≤ c ∧ c ≤ 74) ∨ (97 ≤ c ∧ c ≤ 106)
noncomputable def lo (c : Nat) : Nat := if c < 97 then c + 32 else c
noncomputable def up (c : Nat) : Nat := if c < 97 then c else c - 32
theorem nm_cases {c : Nat} (h : Nm c) {P : Nat → Prop} (all : ∀ i : Fin 10, P (65 + i.val) ∧ P (97 + i.val)) : P c := by
  rcases h with h | h
  · have := (all ⟨c - 65, by omega⟩).1
    rwa [show 65 + (c - 65) = c by omega] at this
  · have := (all ⟨c - 97, by omega⟩).2
    rwa [show 97 + (c - 97) = c by omega] at this
theorem lower_nm {c : Nat} (h : Nm c) : Txt.lower (chr c) = chr (lo c) := nm_cases h (P := fun c => Txt.lower (chr c) = chr (lo c)) (by decide +kernel)
theorem upper_nm {c : Nat} (h : Nm c) : Txt.upper (chr c) = chr (up c) := nm_cases h (P := fun c => Txt.upper (chr c) = chr (up c)) (by decide +kernel)
theorem lo_nm {c : Nat} (h : Nm c) : Nm (lo c) := by unfold lo Nm at *; split <;> omega
theorem up_nm {c : Nat} (h : Nm c) : Nm (up c) := by unfold up Nm at *; split <;> omega
theorem okn_nm {c : Nat} (h : Nm c) : OkN (chr c) := by
  intro p hp
  have e : p = 0 := by have : (chr c).cps.size = 1 := rfl; omega
  subst e
  show okn c = true
  simp only [okn, Bool.and_eq_true, decide_eq_true_eq]
  unfold Nm at h; omega
structure Row where
  a : Addr
  c : Nat
  kt : Tok
  v : Str
  vt : Tok
noncomputable abbrev tupO (r : Row) : Obj := { cls := .type "tuple", data := .seq [Value.str (chr r.c) r.kt, Value.str r.v r.vt].toArray }
noncomputable abbrev refsL (rows : List Row) : List Value := rows.map fun r => .ref r.a
noncomputable abbrev tabL (x dx l : Addr) (H : Int) (t : Tok) (n ep : Nat) (rows : List Row) : List (Addr × Obj) := [(x, instObj 220 dx), (dx, dictOf [⟨H, .str "_headers" t, .ref l⟩] n), (l, listOf (refsL rows).toArray ep)]
theorem refsL_get {rows : List Row} {i : Nat} {v : Value} (h : (refsL rows)[i]? = some v) : ∃ r, rows[i]? = some r ∧ .ref r.a = v := by
  simpa [refsL, List.getElem?_map, Option.map_eq_some_iff] using h
noncomputable def findR (c : Nat) (rows : List Row) : Option Row := rows.find? fun r => lo r.c == lo c
theorem findR_some {c : Nat} {rows : List Row} {i : Nat} {r : Row} (h : rows[i]? = some r) (hc : lo r.c = lo c) (hno : ∀ j q, j < i → rows[j]? = some q → lo q.c ≠ lo c) : findR c rows = some r := by
  obtain ⟨hi, e⟩ := List.getElem?_eq_some_iff.mp h
  refine List.find?_eq_some_iff_getElem.mpr ⟨by simpa using hc, i, hi, e, fun j hj => ?_⟩
  have := hno j rows[j] hj (List.getElem?_eq_getElem _)
  simpa using this
theorem findR_none {c : Nat} {rows : List Row} (hno : ∀ j q, j < rows.length → rows[j]? = some q → lo q.c ≠ lo c) : findR c rows = none := by
  refine List.find?_eq_none.mpr fun r hr => ?_
  obtain ⟨j, hj, e⟩ := List.getElem_of_mem hr
  have := hno j r hj (by rw [List.getElem?_eq_getElem hj, e])
  simpa using this
noncomputable def valR (d : Value) : Option Row → Value
  | some r => .str r.v r.vt
  | none => d
theorem chr_eq {a b : Nat} : ((chr a == chr b) = true) ↔ a = b := by
  constructor
  · intro h
    have := eq_of_beq h
    simpa using this
  · rintro rfl; exact beq_self_eq_true _
theorem take_map_succ {α β : Type} {f : α → β} {xs : List α} {i : Nat} {x : α} (h : xs[i]? = some x) : (xs.take (i + 1)).map f = (xs.take i).map f ++ [f x] := by
  rw [List.take_add_one, h, List.map_append]; rfl
theorem take_filter_succ {α : Type} {f : α → Bool} {xs : List α} {i : Nat} {x : α} (h : xs[i]? = some x) : (xs.take (i + 1)).filter f = (xs.take i).filter f ++ (if f x = true then [x] else []) := by
  rw [List.take_add_one, h, List.filter_append]
  cases hf : f x <;> simp [hf]
structure SepT (x dx l : Nat) (rest : List (Addr × Obj)) : Prop where
  a : l < dx
  b : dx < x
  c : ∀ p ∈ rest, p.1 ≠ l
theorem Cx.use {w : World} {d u : Nat} {news : List (Addr × Obj)} {t : Sem Value} {post : Value → List (Addr × Obj) → Prop} (C : Cx w d u news t post)
  {loose : List Str} {mean : ExcName → Option Value} {mg mb : Str → Option Value} {dp un : Nat} {gd : Option (List Code)} {cn : Str} {cs : Scope} {a : Addr} {ccd : Value} {cl : List (Str × Addr)} {outer : List Env} {A₀ : Around} {base h₀ : Heap} {L : Addr} {m : Str → Option Value} {s : Shared} {Q E : Value → Shared → Prop}
   (B : Below A₀ base outer h₀) (F : Fr h₀ L s.heap m) (X : Frag.In (hd.heap_1 w.params) h₀) (N : News h₀ L s.heap news) (T : Top topProg loose mean mg mb h₀) (hk : cs.kind = .function) (h1 : dp + d < recursionLimit) (h2 : un + u < cLine)
   (h : ∀ r news' h' tk', post r news' → Fr h₀ L h' m → News h₀ L h' news' → Q r {s with heap := h', toks := tk'}) :
   wpAny (model PySem.Challenge.rw_uk0026_01.row.prog w) (ktrTop dp un gd cn cs L a ccd cl outer) t Q E s := C loose mean mg mb dp un gd cn cs a ccd cl outer A₀ base h₀ L m s Q E B F X N T hk h1 h2 h
section
variable {prog : Program} {w : World} {A : Around} {E : Value → Shared → Prop} {s : Shared} {c : Nat} {t : Tok} {Q : Value → Shared → Prop}
theorem low_call (hn : Nm c) (h : ∀ t' k, Q (.str (chr (lo c)) t') { s with toks := k }) : wpAny (model prog w) A (call (.builtin "str.lower") [.str (chr c) t]) Q E s := by
  rw [← lower_nm hn] at h
  exact SCL.lower (by show (1 : Nat) ≤ 5592405; decide) fun _ => h _ _
theorem upp_call (hn : Nm c) (h : ∀ t' k, Q (.str (chr (up c)) t') { s with toks := k }) : wpAny (model prog w) A (call (.builtin "str.upper") [.str (chr c) t]) Q E s := by
  rw [← upper_nm hn] at h
  exact SCL.upper (by show (1 : Nat) ≤ 5592405; decide) fun _ => h _ _
end
/- text Lp -/
theorem w_Lp : True := by
  w_top off
  exact trivial
noncomputable def LoopM (prog : Program) (w : World) (A : Around) (env : Env) (target : Expr) (body : List Stmt) (Q : Flow → Shared → Prop) (E : Value → Shared → Prop) (xv : Value) (s₁ : Shared) : Prop :=
  wpAny (model prog w) A (pyIter xv) (fun it s₂ => codeAny (model prog w) A (.forLoop target it body [] env) (fun r s' => match r with | .ok f => Q f s' | .error e => cameBackBy (model prog w) A env E e s') s₂) E s₁
theorem For_M {prog : Program} {w : World} {A : Around} {s : Shared} {env : Env} {E : Value → Shared → Prop} {Q : Flow → Shared → Prop} {target iter : Expr} {body : List Stmt} {pos : Pos}
    (h : wpAny (model prog w) A (eval iter env) (fun xv s₁ => LoopM prog w A env target body Q E xv s₁) E s)
    (hs : ∀ x, foldedSetIterable iter env x = pure x := by intro _; rfl) : wpAny (model prog w) A (exec (.For target iter body [] pos) env) Q E s :=
  wpAny_For h hs
noncomputable def TurnNext (h₀ : Heap) (L I : Addr) (oI : Obj) (J : (Str → Option Value) → List (Addr × Obj) → Prop) (s : Shared) (s' : Shared) : Prop :=
  ∃ h' tk' m₂ n₂, s' = { s with heap := h', toks := tk' } ∧ Fr h₀ L h' m₂ ∧ News h₀ L h' ((I, oI) :: n₂) ∧ (∀ p ∈ n₂, p.1 ≠ I) ∧ J m₂ n₂
noncomputable def TurnEnd (h₀ : Heap) (L I : Addr) (oI : Obj) (J : (Str → Option Value) → List (Addr × Obj) → Prop) (s : Shared) (Q : Flow → Shared → Prop) (f : Flow) (s' : Shared) : Prop :=
  match f with
  | .next => TurnNext h₀ L I oI J s s'
  | .cont => TurnNext h₀ L I oI J s s'
  | .brk => Q .next s'
  | .ret v => Q (.ret v) s'
inductive WalkJ (s : Shared) (h₀ : Heap) (L : Addr) (J : Nat → (Str → Option Value) → List (Addr × Obj) → Prop) (St : Nat → Heap → Prop) (n k : Nat) (s' : Shared) : Prop
  | mk (i : Nat) (m₁ : Str → Option Value) (n₁ : List (Addr × Obj)) (h : Heap) (tk : Tok) (h1 : s' = { s with heap := h, toks := tk }) (h2 : Fr h₀ L h m₁) (h3 : News h₀ L h n₁) (h4 : J i m₁ n₁) (h5 : ∀ p ∈ n₁, p.1 ≠ s.heap.objs.size) (h6 : St i h) (h7 : i ≤ n) (h8 : k = n - i) : WalkJ s h₀ L J St n k s'
theorem kv_start {m : Str → Option Value} {x y : Str} (hx : m x = none) (hy : m y = none) : m = fun z => if z = x then none else if z = y then none else m z := by
  funext z
  by_cases h : z = x
  · rw [if_pos h, h, hx]
  · rw [if_neg h]
    by_cases h' : z = y
    · rw [if_pos h', h', hy]
    · rw [if_neg h']
theorem kv_next {m : Str → Option Value} {x y : Str} {a b a' b' : Option Value} : (fun z => if z = x then b' else if z = y then a' else (if z = x then b else if z = y then a else m z)) = fun z => if z = x then b' else if z = y then a' else m z := by
  funext z
  by_cases h : z = x <;> by_cases h' : z = y <;> simp [h, h']
/- text Sr -/
theorem w_Sr : True := by
  w_top off
  exact trivial
noncomputable def ownedIters : List String := ["enumerate", "zip", "dict_itemiterator", "dict_reverseitemiterator", "odict_iterator", "itertools.zip_longest", "itertools.pairwise"]
noncomputable def PlainIter (h : Heap) (I : Addr) : Prop := ∃ o T vs, h.get? I = some o ∧ o.cls = .type T ∧ o.data = .fields vs ∧ ownedIters.contains T = false
theorem PlainIter.go {M : Model} {A : Around} {E : Value → Shared → Prop} {s : Shared} {I : Addr} {target : Expr} {v : Value} {Q : Unit → Shared → Prop} (p : PlainIter s.heap I) (hq : Q () s) : wpAny M A (letOwnedTupleGo target (.ref I) v) Q E s := by
  obtain ⟨o, T, vs, ho, hc, hd, hT⟩ := p
  unfold letOwnedTupleGo
  have key : wpAny M A (do
      let (.ref r, .ref a) := ((Value.ref I), v) | return
      let o ← load r
      match o.cls, o.data with
      | .type n, .fields vs => if ownedIters.contains n && vs[0]? == some (rawInt a) then (do rule "for.unpacks-the-owned-tuple"; updateField r 0 .none)
      | _, _ => pure ()) Q E s := by
    cases v with
    | ref a =>
      refine wpAny_bind (wpAny_load ho ?_)
      rw [hc, hd]
      dsimp only
      rw [hT]
      exact wpAny_pure hq
    | _ => exact wpAny_pure hq
  cases target <;> first | exact wpAny_pure hq | exact key
/-- a thing to walk over: what pyIter of it lays -/
noncomputable def Src (prog : Program) (w : World) (A : Around) (h₀ : Heap) (news : List (Addr × Obj)) (xv : Value) (s : Shared) (n : Nat) (P : Nat → Value → Prop) : Prop :=
  ∀ (Q : Value → Shared → Prop) (E : Value → Shared → Prop),
    (∀ (oI : Obj) (St : Nat → Heap → Prop) (fp : List Addr), (∀ A' : Around, A'.handled = none → Walks prog w A' s.heap.objs.size fp [s.heap.objs.size] n P St) → St 0 (s.heap.push oI) → oI.isFreed = false →
      (∀ i h, St i h → PlainIter h s.heap.objs.size) →
      (∀ b ∈ fp, b = s.heap.objs.size ∨ (∃ o, (b, o) ∈ news) ∨ ∃ o, h₀.get? b = some o) → Q (.ref s.heap.objs.size) { s with heap := s.heap.push oI }) →
    wpAny (model prog w) A (pyIter xv) Q E s
noncomputable def RgO (o : Obj) : Prop := o.cls = .type "range_iterator" ∧ ∃ a b c : Int, o.data = .fields #[rawInt a, rawInt b, rawInt c]
noncomputable def SrcG (R : Obj → Prop) (prog : Program) (w : World) (A : Around) (h₀ : Heap) (news : List (Addr × Obj)) (xv : Value) (s : Shared) (n : Nat) (P : Nat → Value → Prop) : Prop :=
  ∀ (Q : Value → Shared → Prop) (E : Value → Shared → Prop),
    (∀ (oI : Obj) (St : Nat → Heap → Prop) (fp : List Addr), (∀ A' : Around, A'.handled = none → Walks prog w A' s.heap.objs.size fp [s.heap.objs.size] n P St) → St 0 (s.heap.push oI) → oI.isFreed = false →
      (∀ i h, St i h → PlainIter h s.heap.objs.size ∧ ∃ o, h.get? s.heap.objs.size = some o ∧ R o) →
      (∀ b ∈ fp, b = s.heap.objs.size ∨ (∃ o, (b, o) ∈ news) ∨ ∃ o, h₀.get? b = some o) → Q (.ref s.heap.objs.size) { s with heap := s.heap.push oI }) →
    wpAny (model prog w) A (pyIter xv) Q E s
section
variable {prog : Program} {w : World} {A : Around} {s : Shared} {h₀ : Heap} {L : Addr} {m : Str → Option Value} {news : List (Addr × Obj)}
theorem src_list {l : Addr} {vs : List Value} {nn : Nat} (N : News h₀ L s.heap news) (hm : (l, listOf vs.toArray nn) ∈ news) : Src prog w A h₀ [(l, listOf vs.toArray nn)] (.ref l) s vs.length (fun i v => vs[i]? = some v) := fun Q E h => by
  have hol : s.heap.get? l = some (listOf vs.toArray nn) := (N _ hm).1
  have hne : l ≠ s.heap.objs.size := Nat.ne_of_lt (Heap.lt_size hol)
  have hls : s.heap.IsList l vs.toArray := ⟨_, hol, rfl, nn, rfl⟩
  refine wpAny_pyIter_list hls (h _ (fun i h => h.IsListIter s.heap.objs.size l i ∧ h.IsList l vs.toArray) [s.heap.objs.size, l] (fun A' hA => ?_) ⟨⟨_, Heap.get?_push_size _ rfl, rfl, rfl⟩, hls.at fun o e => Heap.get?_push_of_some _ e⟩ rfl (fun i h st => let ⟨o, ho, hc, hd⟩ := st.1; ⟨o, _, _, ho, hc, hd, by decide⟩) fun b hb => ?_)
  · have W := Walks.list (prog := prog) (w := w) hA s.heap.objs.size l hne vs.toArray
    simpa using W
  · rcases List.mem_cons.mp hb with rfl | hb
    · exact .inl rfl
    · exact .inr (.inl ⟨_, by rw [List.mem_singleton.mp hb]; exact List.Mem.head _⟩)
theorem src_listB {l : Addr} {vs : List Value} (F : Fr h₀ L s.heap m) (hl : h₀.IsList l vs.toArray) : Src prog w A h₀ [] (.ref l) s vs.length (fun i v => vs[i]? = some v) := fun Q E h => by
  obtain ⟨o, ho, hc, nn, hd⟩ := hl
  have hol := F.keep _ _ ho
  have hne : l ≠ s.heap.objs.size := Nat.ne_of_lt (Heap.lt_size hol)
  have hls : s.heap.IsList l vs.toArray := ⟨_, hol, hc, nn, hd⟩
  refine wpAny_pyIter_list hls (h _ (fun i h => h.IsListIter s.heap.objs.size l i ∧ h.IsList l vs.toArray) [s.heap.objs.size, l] (fun A' hA => ?_) ⟨⟨_, Heap.get?_push_size _ rfl, rfl, rfl⟩, hls.at fun o e => Heap.get?_push_of_some _ e⟩ rfl (fun i h st => let ⟨o, ho, hc, hd⟩ := st.1; ⟨o, _, _, ho, hc, hd, by decide⟩) fun b hb => ?_)
  · have W := Walks.list (prog := prog) (w := w) hA s.heap.objs.size l hne vs.toArray
    simpa using W
  · rcases List.mem_cons.mp hb with rfl | hb
    · exact .inl rfl
    · exact .inr (.inr ⟨_, (List.mem_singleton.mp hb) ▸ ho⟩)
theorem src_rangeR {r : Addr} {a b : Int} {t u v : Tok} {n : Nat} (hr : IsRange s.heap r a b 1 t u v) (hsmall : Builtin.Range.small a b 1 = true) (hsz : Builtin.Range.rangeSize a b 1 = (n : Int)) :
    SrcG RgO prog w A h₀ [] (.ref r) s n (fun i v => ∃ t, v = .int (a + i) t) := fun Q E h => by
  refine wpAny_pyIter_range hr hsmall (h _ (fun i h => IsRangeIter h s.heap.objs.size (a + (i : Nat) * 1) ((n : Int) - (i : Nat)) 1) [s.heap.objs.size] (fun A' hA => ?_) ?_ rfl (fun i h st => ⟨⟨_, _, _, st, rfl, rfl, by decide⟩, _, st, rfl, _, _, _, rfl⟩) fun b hb => .inl (List.mem_singleton.mp hb))
  · have W := Walks.range (prog := prog) (w := w) hA s.heap.objs.size a 1 n
    simpa using W
  · show IsRangeIter _ _ _ _ _
    rw [hsz]
    have e : (s.heap.push { cls := .type "range_iterator", data := .fields #[rawInt a, rawInt (n : Int), rawInt 1] }).get? s.heap.objs.size = some { cls := .type "range_iterator", dict := none, data := .fields #[rawInt a, rawInt (n : Int), rawInt 1], slots := #[] } := Heap.get?_push_size _ rfl
    simpa [IsRangeIter] using e
theorem SrcG.of {R : Obj → Prop} {xv : Value} {n : Nat} {P : Nat → Value → Prop} (S : SrcG R prog w A h₀ news xv s n P) : Src prog w A h₀ news xv s n P := fun Q E h =>
  S Q E fun oI St fp W a b hpl d => h oI St fp W a b (fun i h1 st => (hpl i h1 st).1) d
theorem src_range {r : Addr} {a b : Int} {t u v : Tok} {n : Nat} (hr : IsRange s.heap r a b 1 t u v) (hsmall : Builtin.Range.small a b 1 = true) (hsz : Builtin.Range.rangeSize a b 1 = (n : Int)) :
    Src prog w A h₀ [] (.ref r) s n (fun i v => ∃ t, v = .int (a + i) t) := (src_rangeR hr hsmall hsz).of
theorem src_str {x : Str} {t : Tok} : Src prog w A h₀ [] (.str x t) s x.cps.size (SignAt x) := fun Q E h => by
  cases ha : x.cps.all (· < 128)
  · exact wpAny_pyIter_wide ha (h _ _ _ (fun A' hA => Walks.strWide hA _ x t) ⟨_, Heap.get?_push_size _ rfl, rfl, rfl⟩ rfl (fun i h st => let ⟨o, ho, hc, hd⟩ := st; ⟨o, _, _, ho, hc, hd, by decide⟩) fun b hb => .inl (List.mem_singleton.mp hb))
  · exact wpAny_pyIter_ascii ha (h _ _ _ (fun A' hA => Walks.strAscii hA _ x t) ⟨_, Heap.get?_push_size _ rfl, rfl, rfl⟩ rfl (fun i h st => let ⟨o, ho, hc, hd⟩ := st; ⟨o, _, _, ho, hc, hd, by decide⟩) fun b hb => .inl (List.mem_singleton.mp hb))
end
theorem for_walkG {R : Obj → Prop} {prog : Program} {w : World} {A : Around} {s : Shared} {env : Env} {h₀ : Heap} {m : Str → Option Value} {news src : List (Addr × Obj)} {E : Value → Shared → Prop} {Q : Flow → Shared → Prop} {target : Expr} {body : List Stmt}
    {xv : Value} {n : Nat} {P : Nat → Value → Prop} (hh : A.handled = none) (F : Fr h₀ env.locals s.heap m) (N : News h₀ env.locals s.heap news) (S : SrcG R prog w A h₀ src xv s n P)
    (J₀ : (Str → Option Value) → Nat → (Str → Option Value) → List (Addr × Obj) → Prop) (hj : J₀ m 0 m news) (hl : ∀ i m₁ n₁, J₀ m i m₁ n₁ → ∀ p ∈ src, p ∈ n₁)
    (turn : ∀ i v m₁ n₁ I oI h tk, R oI → i < n → P i v → J₀ m i m₁ n₁ → (∀ p ∈ n₁, p.1 ≠ I) → Fr h₀ env.locals h m₁ → News h₀ env.locals h ((I, oI) :: n₁) → ∀ Z, HidEq (TurnEnd h₀ env.locals I oI (J₀ m (i + 1)) s Q) Z →
      wpAny (model prog w) A (assign target env v) (fun _ s₂ => wpAny (model prog w) A (execs body env) (Hid Z) (fun _ _ => False) s₂) (fun _ _ => False) { s with heap := h, toks := tk })
    (done : ∀ m₁ n₁ h tk, J₀ m n m₁ n₁ → Fr h₀ env.locals h m₁ → News h₀ env.locals h n₁ → Q .next { s with heap := h, toks := tk }) :
    LoopM prog w A env target body Q E xv s := by
  let J := J₀ m
  have hL := F.ns.lt
  have hI0 : h₀.get? s.heap.objs.size = none := Heap.get?_none_of_le (Nat.le_trans F.above (Nat.le_of_lt hL))
  refine S _ _ fun oI0 St fp W hst0 hfree hpl hfp => ?_
  have hsub := (W { A with handled := none } rfl).sub
  have hLf : env.locals ∉ fp := fun hm => by
    rcases hfp _ hm with e | ⟨o, e⟩ | ⟨o, e⟩
    · exact absurd e (Nat.ne_of_lt hL)
    · exact (N _ (hl 0 m news hj _ e)).2.1 rfl
    · rw [Heap.get?_none_of_le F.above] at e; cases e
  refine codeAny_forLoop_any (R := fun r s' => match r with | .ok f => Q f s' | .error e => cameBackBy (model prog w) A env E e s')
    (fun k s' => WalkJ s h₀ env.locals J St n k s') ?_ n
    ⟨0, m, news, _, s.toks, rfl, F.push _, fun p hp => ⟨Heap.get?_push_of_some _ (N p hp).1, (N p hp).2⟩, hj, fun p hp => Nat.ne_of_lt (Heap.lt_size (N p hp).1), hst0, Nat.zero_le _, rfl⟩
  rintro k s' ⟨i, m₁, n₁, h, tk, rfl, F₁, N₁, hJ, hoff, hst, hi, rfl⟩
  have keeps : ∀ h₁ : Heap, (∀ b o, b ∉ [s.heap.objs.size] → h.get? b = some o → h₁.get? b = some o) → Fr h₀ env.locals h₁ m₁ ∧ News h₀ env.locals h₁ n₁ := fun h₁ hk => by
    have hk' : ∀ b o, b ≠ s.heap.objs.size → h.get? b = some o → h₁.get? b = some o := fun b o hb => hk b o (by simpa using hb)
    obtain ⟨oL, es, ep, hoL, r⟩ := F₁.ns
    exact ⟨⟨⟨oL, es, ep, hk' _ _ (Nat.ne_of_lt hL) hoL, r⟩, fun b o e => hk' b o (fun q => by rw [q, hI0] at e; cases e) (F₁.keep b o e), F₁.above⟩, fun p hp => ⟨hk' _ _ (hoff p hp) (N₁ p hp).1, (N₁ p hp).2⟩⟩
  by_cases hlt : i < n
  · refine (W A hh).item i _ _ _ hlt hst fun v h₁ tk₁ hP hst₁ hk₁ => ?_
    obtain ⟨F₂, N₂'⟩ := keeps h₁ hk₁
    obtain ⟨⟨oI, T, vs, hoI, hIc, hId, hIT⟩, oI2, hoI2, hRg⟩ := hpl _ _ hst₁
    obtain rfl : oI = oI2 := Option.some.inj (hoI.symm.trans hoI2)
    have N₂ : News h₀ env.locals h₁ ((s.heap.objs.size, oI) :: n₁) := fun p hp => by
      rcases List.mem_cons.mp hp with rfl | hp
      · exact ⟨hoI, Nat.ne_of_gt hL, hI0⟩
      · exact N₂' p hp
    refine PlainIter.go (s := { s with heap := h₁, toks := tk₁ }) ⟨oI, T, vs, hoI, hIc, hId, hIT⟩ ?_
    refine wpAny_mono (turn i v m₁ n₁ _ oI h₁ tk₁ hRg hlt hP hJ hoff F₂ N₂ _ ⟨fun _ _ h => h⟩) (fun _ s₂ hb => wpAny_mono hb (fun f s₃ hf => ?_) fun _ _ x => x.elim) fun _ _ x => x.elim
    have nxt : TurnNext h₀ env.locals s.heap.objs.size oI (J (i + 1)) s s₃ → ∃ m', m' < n - i ∧ WalkJ s h₀ env.locals J St n m' s₃ := by
      rintro ⟨h', tk', m₂, n₂, e, F', N', ho', hJ'⟩
      refine ⟨n - (i + 1), by omega, i + 1, m₂, n₂, h', tk', e, F', fun p hp => N' p (.tail _ hp), hJ', ho', (W A hh).frame _ _ _ hst₁ fun b hb o eo => ?_, hlt, rfl⟩
      rcases hfp b hb with rfl | ⟨o', e'⟩ | ⟨o', e'⟩
      · rw [hoI] at eo; cases eo
        exact (N' _ (.head _)).1
      · have h1 := (N₂' _ (hl i m₁ n₁ hJ _ e')).1
        rw [eo] at h1; cases h1
        exact (N' _ (.tail _ (hl (i + 1) m₂ n₂ hJ' _ e'))).1
      · have h1 := F₂.keep _ _ e'
        rw [eo] at h1; cases h1
        exact F'.keep _ _ e'
    cases f with
    | next => exact nxt hf
    | cont => exact nxt hf
    | brk => exact hf
    | ret v => exact hf
  · have hin : i = n := by omega
    subst hin
    refine (W A hh).done _ _ _ hst fun h₁ tk₁ hk₁ => wpAny_execs_nil ?_
    obtain ⟨F₂, N₂⟩ := keeps h₁ hk₁
    exact done m₁ n₁ h₁ tk₁ hJ F₂ N₂
theorem Src.g {prog : Program} {w : World} {A : Around} {s : Shared} {h₀ : Heap} {news : List (Addr × Obj)} {xv : Value} {n : Nat} {P : Nat → Value → Prop} (S : Src prog w A h₀ news xv s n P) : SrcG (fun _ => True) prog w A h₀ news xv s n P := fun Q E h =>
  S Q E fun oI St fp W a b hpl d => h oI St fp W a b (fun i h1 st => ⟨hpl i h1 st, let ⟨o, _, _, e, _⟩ := hpl i h1 st; ⟨o, e, trivial⟩⟩) d
theorem for_walk {prog : Program} {w : World} {A : Around} {s : Shared} {env : Env} {h₀ : Heap} {m : Str → Option Value} {news src : List (Addr × Obj)} {E : Value → Shared → Prop} {Q : Flow → Shared → Prop} {target : Expr} {body : List Stmt}
    {xv : Value} {n : Nat} {P : Nat → Value → Prop} (hh : A.handled = none) (F : Fr h₀ env.locals s.heap m) (N : News h₀ env.locals s.heap news) (S : Src prog w A h₀ src xv s n P)
    (J₀ : (Str → Option Value) → Nat → (Str → Option Value) → List (Addr × Obj) → Prop) (hj : J₀ m 0 m news) (hl : ∀ i m₁ n₁, J₀ m i m₁ n₁ → ∀ p ∈ src, p ∈ n₁)
    (turn : ∀ i v m₁ n₁ I oI h tk, i < n → P i v → J₀ m i m₁ n₁ → (∀ p ∈ n₁, p.1 ≠ I) → Fr h₀ env.locals h m₁ → News h₀ env.locals h ((I, oI) :: n₁) → ∀ Z, HidEq (TurnEnd h₀ env.locals I oI (J₀ m (i + 1)) s Q) Z →
      wpAny (model prog w) A (assign target env v) (fun _ s₂ => wpAny (model prog w) A (execs body env) (Hid Z) (fun _ _ => False) s₂) (fun _ _ => False) { s with heap := h, toks := tk })
    (done : ∀ m₁ n₁ h tk, J₀ m n m₁ n₁ → Fr h₀ env.locals h m₁ → News h₀ env.locals h n₁ → Q .next { s with heap := h, toks := tk }) :
    LoopM prog w A env target body Q E xv s :=
  for_walkG hh F N S.g J₀ hj hl (fun i v m₁ n₁ I oI h tk _ => turn i v m₁ n₁ I oI h tk) done
/- text Cp -/
theorem w_Cp : True := by
  w_top off
  exact trivial
noncomputable def NsO (o : Obj) (m : Str → Option Value) : Prop := ∃ es ep, o.data = .dict es ep ∧ StrKeys es ∧ ∀ name, nsFind es name = m name
theorem NsO.ns {h : Heap} {C : Addr} {o : Obj} {m : Str → Option Value} (x : NsO o m) (e : h.get? C = some o) : h.Ns C m := let ⟨es, ep, a, b, c⟩ := x; ⟨o, es, ep, e, a, b, c⟩
theorem NsO.of {h : Heap} {C : Addr} {m : Str → Option Value} (x : h.Ns C m) : ∃ o, h.get? C = some o ∧ NsO o m := let ⟨o, es, ep, e, a, b, c⟩ := x; ⟨o, e, es, ep, a, b, c⟩
section
variable {M : Model} {A : Around} {E : Value → Shared → Prop} {s : Shared} {K : Frag} {h₀ : Heap} {L C : Addr} {m mg mb mc : Str → Option Value} {p : Program} {loose : List Str} {mean : ExcName → Option Value}
  {x : Str} {pos : Pos} {v : Value} {news : List (Addr × Obj)} {c : Addr} {o oC : Obj} {scope : Scope} {cl : List (Str × Addr)} {env : Env}
theorem nameC_L {Q : Value → Shared → Prop} (N : News h₀ L s.heap news) (ho : NsO oC mc) (hm : (C, oC) ∈ news) (hv : mc x = some v)
    (hk : (compEnvC scope cl C env).scope.kind = .function) (hx : (compEnvC scope cl C env).kindOf x = some .local) (hd : (x == ("__debug__" : Str)) = false) (h : Q v s) :
    wpAny M A (eval (.Name x pos) (compEnvC scope cl C env)) Q E s := wpAny_Name (wpAny_loadName_local hk hx (ho.ns (N.get hm)) hv h) hd
theorem nameC_C {Q : Value → Shared → Prop} (N : News h₀ L s.heap news) (hc : cl.lookup x = some c) (hm : (c, o) ∈ news) (hd : o.data = .cell (some v))
    (hk : (compEnvC scope cl C env).scope.kind = .function) (hx : (compEnvC scope cl C env).kindOf x = some .cell) (hb : (x == ("__debug__" : Str)) = false) (h : Q v s) :
    wpAny M A (eval (.Name x pos) (compEnvC scope cl C env)) Q E s := wpAny_Name (wpAny_loadName_cell hk hx hc ⟨o, N.get hm, hd⟩ h) hb
theorem nameC_F {Q : Value → Shared → Prop} (N : News h₀ L s.heap news) (hc : cl.lookup x = some c) (hm : (c, o) ∈ news) (hd : o.data = .cell (some v))
    (hk : (compEnvC scope cl C env).scope.kind = .function) (hx : (compEnvC scope cl C env).kindOf x = some .free) (hb : (x == ("__debug__" : Str)) = false) (hn : (x == ("__classdict__" : Str)) = false) (h : Q v s) :
    wpAny M A (eval (.Name x pos) (compEnvC scope cl C env)) Q E s := wpAny_Name (wpAny_loadName_free hk hx hc ⟨o, N.get hm, hd⟩ h hn) hb
theorem nameC_K {Q : Value → Shared → Prop} (F : Fr h₀ L s.heap m) (X : K.In h₀) (T : TopRead p loose mg mb h₀) (e : nsIn K mainGlobals x = some (some v))
    (hg : (compEnvC scope cl C env).globals = mainGlobals) (hk : (compEnvC scope cl C env).scope.kind = .function) (hx : (compEnvC scope cl C env).kindOf x = some .globalImplicit) (hd : (x == ("__debug__" : Str)) = false) (h : Q v s) :
    wpAny M A (eval (.Name x pos) (compEnvC scope cl C env)) Q E s :=
  Name_function_global hk hx (loadGlobal_global (env := compEnvC scope cl C env) (by rw [hg]; exact T.g.keeps F.keep) (mg_of X T.g e) h) hd
theorem nameC_B {Q : Value → Shared → Prop} (F : Fr h₀ L s.heap m) (X : K.In h₀) (T : TopRead p loose mg mb h₀) (e : nsIn K mainGlobals x = some none) (hv : bootBuiltins x = some v) (hn : x ≠ "__name__")
    (hg : (compEnvC scope cl C env).globals = mainGlobals) (hb : (compEnvC scope cl C env).builtins = builtinsNs) (hk : (compEnvC scope cl C env).scope.kind = .function) (hx : (compEnvC scope cl C env).kindOf x = some .globalImplicit) (hd : (x == ("__debug__" : Str)) = false) (h : Q v s) :
    wpAny M A (eval (.Name x pos) (compEnvC scope cl C env)) Q E s :=
  Name_function_global hk hx (loadGlobal_builtin (env := compEnvC scope cl C env) (by rw [hg]; exact T.g.keeps F.keep) (mg_none_of X T.g e) (by rw [hb]; exact T.b.keeps F.keep) ((T.builtins x hn).trans hv) h) hd
theorem storeC {Q : Unit → Shared → Prop} {rest : List (Addr × Obj)} (F : Fr h₀ L s.heap m) (N : News h₀ L s.heap ((C, oC) :: rest)) (ho : NsO oC mc) (hoff : ∀ q ∈ rest, q.1 ≠ C)
    (h : ∀ h' oC', Fr h₀ L h' m → News h₀ L h' ((C, oC') :: rest) → NsO oC' (fun y => if y = x then some v else mc y) → Q () { s with heap := h', toks := s.toks + 1 })
    (hk : (compEnvC scope cl C env).scope.kind = .function := by rfl) (hx : (compEnvC scope cl C env).kindOf x = some .local := by rfl) :
    wpAny M A (storeName (compEnvC scope cl C env) x v) Q E s := by
  have hC := N (C, oC) (.head _)
  refine wpAny_storeName_local (env := compEnvC scope cl C env) hx (ho.ns hC.1) (fun h' hn hs => ?_) (by rw [hk]; rfl)
  obtain ⟨oC', hoC', hns⟩ := NsO.of hn
  have hs' : Heap.SameBut C s.heap h' := hs
  refine h h' oC' ⟨F.ns.sameBut hs' (Ne.symm hC.2.1), fun b o e => (hs'.2 b fun q => by rw [q, hC.2.2] at e; cases e).trans (F.keep b o e), F.above⟩ (fun q hq => ?_) hns
  rcases List.mem_cons.mp hq with rfl | hq
  · exact ⟨hoC', hC.2⟩
  · exact ⟨(hs'.2 q.1 (hoff q hq)).trans (N q (.tail _ hq)).1, (N q (.tail _ hq)).2⟩
end
section
variable {prog : Program} {w : World} {A : Around} {R : Result → Shared → Prop} {s : Shared}
theorem codeAny_compLoop_go {elt target iter : Expr} {ifs : List Expr} {scope : Scope} {pos : Pos} {it acc : Value} {env : Env} (I : Nat → Shared → Prop)
    (turn : ∀ n s, I n s → wpAny (model prog w) A (pyNext it) (fun r s₁ => match r with
      | none => R (.ok .next) s₁
      | some v => wpAny (model prog w) A (letOwnedTupleGo target it v) (fun _ s₁' => wpAny (model prog w) A (assign target env v) (fun _ s₂ =>
          wpAny (model prog w) A (forIn ifs true fun c r => if r = true then do let ok ← isTrue c env (eval c env); pure (ForInStep.yield ok) else pure (ForInStep.yield r)) (fun ok s₃ =>
            if ok = true then wpAny (model prog w) A (eval elt env) (fun x s₄ =>
              wpAny (model prog w) A (call (.builtin "list.append") [acc, x]) (fun _ s₅ => ∃ m, m < n ∧ I m s₅) (notedBy (model prog w) A env fun e s' => R (.error e) s') s₄) (notedBy (model prog w) A env fun e s' => R (.error e) s') s₃
            else ∃ m, m < n ∧ I m s₃) (notedBy (model prog w) A env fun e s' => R (.error e) s') s₂) (notedBy (model prog w) A env fun e s' => R (.error e) s') s₁') (notedBy (model prog w) A env fun e s' => R (.error e) s') s₁) (notedBy (model prog w) A env fun e s' => R (.error e) s') s)
    (n : Nat) (h : I n s) :
    codeAny (model prog w) A (.compLoop (.ListComp elt [⟨target, iter, ifs, 0⟩] scope pos) 0 it acc env) R s := by
  refine codeAny_loop rfl I (fun n s hI => ?_) n h
  show wpAny _ A ((compTurn (.ListComp elt [⟨target, iter, ifs, 0⟩] scope pos) 0 it acc env).onRaise (fun x => do noteFrame x env; theTreesLotGoes x)) _ _ s
  refine wpAny_noted ?_
  rw [compTurn_list]
  refine wpAny_bind (wpAny_standAt (wpAny_bind (wpAny_mono (turn n s hI) (fun r s₁ h₁ => ?_) fun _ _ h' => h')))
  cases r with
  | none => exact wpAny_pure h₁
  | some v =>
    refine wpAny_bind (wpAny_mono h₁ (fun _ s₁' h₁' => ?_) fun _ _ h' => h')
    refine wpAny_bind (wpAny_mono h₁' (fun _ s₂ h₂ => wpAny_bind (wpAny_mono h₂ (fun ok s₃ h₃ => ?_) fun _ _ h' => h')) fun _ _ h' => h')
    cases ok with
    | false => exact wpAny_pure ⟨rfl, h₃⟩
    | true =>
      exact wpAny_bind (wpAny_bind (wpAny_mono h₃ (fun x s₄ h₄ => wpAny_bind (wpAny_mono h₄ (fun _ s₅ h₅ => wpAny_pure (wpAny_pure ⟨rfl, h₅⟩)) fun _ _ h' => h')) fun _ _ h' => h'))
end
noncomputable def CompM (prog : Program) (w : World) (A : Around) (env : Env) (elt target iter : Expr) (ifs : List Expr) (scope : Scope) (pos : Pos) (cl : List (Str × Addr)) (use : Option (Value → Sem Unit)) (Q : Value → Shared → Prop) (E : Value → Shared → Prop) (xv : Value) (s₁ : Shared) : Prop :=
  wpAny (model prog w) A (pyIter xv) (fun it s₂ => wpAny (model prog w) A (newList []) (fun acc s₃ =>
      wpAny (model prog w) A (newFunctionEnv scope env.globals cl [] env.qual none .none (some env)) (fun cenv s₄ =>
        codeAny (model prog w) A (.compStart (.ListComp elt [⟨target, iter, ifs, 0⟩] scope pos) 0 it acc { cenv with scope := relabel scope env }) (compPost (model prog w) A E use Q acc cenv.locals) s₄) E s₃) E s₂) E s₁
theorem Comp_M {prog : Program} {w : World} {A : Around} {s : Shared} {env : Env} {E Q : Value → Shared → Prop} {elt target iter : Expr} {ifs : List Expr} {scope : Scope} {pos : Pos} {cl : List (Str × Addr)}
    (hclos : closureFor scope env = pure cl) (hkind : scope.kind = .function) (hnames : ∀ x ∈ scope.names, x.2 = .local → scope.names.lookup x.1 = some .local)
    (h : wpAny (model prog w) A (eval iter env) (fun xv s₁ => CompM prog w A env elt target iter ifs scope pos cl none Q E xv s₁) E s)
    (hs : ∀ x, foldedSetIterable iter env x = pure x := by intro _; rfl) : wpAny (model prog w) A (eval (.ListComp elt [⟨target, iter, ifs, 0⟩] scope pos) env) Q E s := by
  rw [eval_ListComp]
  exact wpAny_comprehension_free rfl hs hclos hkind hnames h
/-- the end of a turn of a comprehension -/
noncomputable def CTurn (h₀ : Heap) (L : Addr) (m : Str → Option Value) (I D C : Addr) (oI : Obj) (news : List (Addr × Obj)) (J : List Value → Prop) (ys : List Value) (s : Shared) (s' : Shared) : Prop :=
  ∃ h' tk' oC mc, s' = { s with heap := h', toks := tk' } ∧ Fr h₀ L h' m ∧ News h₀ L h' ((C, oC) :: (D, listOf ys.toArray ys.length) :: (I, oI) :: news) ∧ NsO oC mc ∧ J ys
noncomputable def CElt (h₀ : Heap) (L : Addr) (m : Str → Option Value) (I D C : Addr) (oI : Obj) (news : List (Addr × Obj)) (J : List Value → Prop) (ys : List Value) (s : Shared) (y : Value) (s' : Shared) : Prop :=
  ∃ h' tk' oC mc, s' = { s with heap := h', toks := tk' } ∧ Fr h₀ L h' m ∧ News h₀ L h' ((C, oC) :: (D, listOf ys.toArray ys.length) :: (I, oI) :: news) ∧ NsO oC mc ∧ J (ys ++ [y])
noncomputable def CompEnd (h₀ : Heap) (L : Addr) (m : Str → Option Value) (I D C : Addr) (oI : Obj) (news : List (Addr × Obj)) (J : List Value → Prop) (ys : List Value) (s : Shared) (o : Option Value) (s' : Shared) : Prop :=
  match o with
  | some y => CElt h₀ L m I D C oI news J ys s y s'
  | none => CTurn h₀ L m I D C oI news J ys s s'
structure COff (news : List (Addr × Obj)) (I D C : Addr) : Prop where
  i : ∀ p ∈ news, p.1 < I
  d : I < D
  c : D < C
theorem COff.ne {news : List (Addr × Obj)} {I D C : Addr} (off : COff news I D C) {X oI : Obj} : ∀ q ∈ (D, X) :: (I, oI) :: news, q.1 ≠ C := fun q hq => by
  rcases List.mem_cons.mp hq with rfl | hq
  · exact Nat.ne_of_lt off.c
  · rcases List.mem_cons.mp hq with rfl | hq
    · exact Nat.ne_of_lt (Nat.lt_trans off.d off.c)
    · exact Nat.ne_of_lt (Nat.lt_trans (off.i q hq) (Nat.lt_trans off.d off.c))
inductive CompJ (s : Shared) (h₀ : Heap) (L : Addr) (m : Str → Option Value) (C D I : Addr) (news : List (Addr × Obj)) (J : Nat → List Value → Prop) (St : Nat → Heap → Prop) (n k : Nat) (s' : Shared) : Prop
  | mk (i : Nat) (ys : List Value) (h : Heap) (tk : Tok) (oI oC : Obj) (mc : Str → Option Value) (h1 : s' = { s with heap := h, toks := tk }) (h2 : Fr h₀ L h m) (h3 : News h₀ L h ((C, oC) :: (D, listOf ys.toArray ys.length) :: (I, oI) :: news)) (h4 : NsO oC mc) (h5 : J i ys) (h6 : ys.length ≤ i) (h7 : St i h) (h8 : i ≤ n) (h9 : k = n - i) : CompJ s h₀ L m C D I news J St n k s'
theorem comp_walk {prog : Program} {w : World} {A : Around} {s : Shared} {env : Env} {h₀ : Heap} {L : Addr} {m : Str → Option Value} {news src : List (Addr × Obj)} {E Q : Value → Shared → Prop}
    {elt target iter : Expr} {ifs : List Expr} {scope : Scope} {pos : Pos} {cl : List (Str × Addr)} {use : Option (Value → Sem Unit)}
    {xv : Value} {n : Nat} {P : Nat → Value → Prop} (hh : A.handled = none) (F : Fr h₀ L s.heap m) (N : News h₀ L s.heap news) (S : Src prog w A h₀ src xv s n P) (hsrc : ∀ p ∈ src, p ∈ news)
    (hcell : ∀ y ∈ scope.names, y.2 ≠ .cell) (hkind : scope.kind = .function)
    (J : Nat → List Value → Prop) (hj : J 0 []) (hsz : n ≤ 16777216)
    (turn : ∀ i v ys I D C oI oC h tk, i < n → P i v → ys.length ≤ i → J i ys → COff news I D C → Fr h₀ L h m → News h₀ L h ((C, oC) :: (D, listOf ys.toArray ys.length) :: (I, oI) :: news) → (∃ mc, NsO oC mc) → ∀ Z, HidEq (CompEnd h₀ L m I D C oI news (J (i + 1)) ys s) Z →
      wpAny (model prog w) A (assign target (compEnvC scope cl C env) v) (fun _ s₂ =>
        wpAny (model prog w) A (forIn ifs true fun c r => if r = true then do let ok ← isTrue c (compEnvC scope cl C env) (eval c (compEnvC scope cl C env)); pure (ForInStep.yield ok) else pure (ForInStep.yield r)) (fun ok s₃ =>
          if ok = true then wpAny (model prog w) A (eval elt (compEnvC scope cl C env)) (fun y => Hid Z (some y)) (fun _ _ => False) s₃
          else Hid Z none s₃) (fun _ _ => False) s₂) (fun _ _ => False) { s with heap := h, toks := tk })
    (done : ∀ ys D C oC h tk, ys.length ≤ n → J n ys → (∀ p ∈ news, p.1 < D) → D < C → Fr h₀ L h m → News h₀ L h ((C, oC) :: (D, listOf ys.toArray ys.length) :: news) → (∃ mc, NsO oC mc) →
      compPost (model prog w) A E use Q (.ref D) C (.ok .next) { s with heap := h, toks := tk }) :
    CompM prog w A env elt target iter ifs scope pos cl use Q E xv s := by
  have hL : @LT.lt Nat _ L s.heap.objs.size := F.ns.lt
  have fresh : ∀ b : Nat, @LE.le Nat _ s.heap.objs.size b → h₀.get? b = none := fun b hb => Heap.get?_none_of_le (Nat.le_trans F.above (Nat.le_trans (Nat.le_of_lt hL) hb))
  refine S _ _ fun oI0 St fp W hst0 hfree hpl hfp => ?_
  refine wpAny_newObj_type (wpAny_newFunctionEnv hcell (by intro y hy; simp at hy) (fun h₁ hns₁ hsb₁ => ?_) hkind)
  dsimp only at hns₁ hsb₁ ⊢
  generalize hH1 : s.heap.push oI0 = H1 at hst0 hns₁ hsb₁ ⊢
  generalize hH2 : H1.push { cls := .type "list", dict := none, data := .seq ([] : List Value).toArray } = H2 at hns₁ hsb₁ ⊢
  have hD1 : H1.objs.size = s.heap.objs.size + 1 := by rw [← hH1, Heap.size_push]
  have hC1 : H2.objs.size = H1.objs.size + 1 := by rw [← hH2, Heap.size_push]
  have pI : (H1.get? s.heap.objs.size) = some oI0 := by rw [← hH1]; exact Heap.get?_push_size _ hfree
  have pD : (H2.get? H1.objs.size) = some (listOf #[] 0) := by rw [← hH2]; exact Heap.get?_push_size _ rfl
  have p1 : ∀ b o, s.heap.get? b = some o → H1.get? b = some o := fun b o e => hH1 ▸ Heap.get?_push_of_some _ e
  have p2 : ∀ b o, H1.get? b = some o → H2.get? b = some o := fun b o e => hH2 ▸ Heap.get?_push_of_some _ e
  have hlt : ∀ (b : Nat) o, s.heap.get? b = some o → @LT.lt Nat _ b s.heap.objs.size := fun b o e => Heap.lt_size e
  generalize hI : s.heap.objs.size = I at *
  generalize hD : H1.objs.size = D at *
  generalize hC : H2.objs.size = C at *
  have old : ∀ b o, b ≠ C → H2.get? b = some o → h₁.get? b = some o := fun b o hb e => hsb₁.extBut b o hb (Heap.get?_push_of_some _ e)
  have oldS : ∀ b o, s.heap.get? b = some o → h₁.get? b = some o := fun b o e => old b o (neN (by have := hlt b o e; omega)) (p2 _ _ (p1 _ _ e))
  have hIo : h₁.get? I = some oI0 := old I _ (neN (by omega)) (p2 _ _ pI)
  have hDo : h₁.get? D = some (listOf #[] 0) := old D _ (neN (by omega)) pD
  obtain ⟨oC0, hoC0, hnC0⟩ := NsO.of hns₁
  obtain ⟨oL, es, ep, hoL, rL⟩ := F.ns
  have F₁ : Fr h₀ L h₁ m := ⟨⟨oL, es, ep, oldS _ _ hoL, rL⟩, fun b o e => oldS b o (F.keep b o e), F.above⟩
  have N₁ : News h₀ L h₁ ((C, oC0) :: (D, listOf #[] 0) :: (I, oI0) :: news) := fun p hp => by
    rcases List.mem_cons.mp hp with rfl | hp
    · exact ⟨hoC0, neN (by omega), fresh C (by omega)⟩
    · rcases List.mem_cons.mp hp with rfl | hp
      · exact ⟨hDo, neN (by omega), fresh D (by omega)⟩
      · rcases List.mem_cons.mp hp with rfl | hp
        · exact ⟨hIo, neN (by omega), fresh _ (Nat.le_refl _)⟩
        · exact ⟨oldS _ _ (N p hp).1, (N p hp).2⟩
  have hoffI : ∀ p ∈ news, p.1 < I := fun p hp => hlt _ _ (N p hp).1
  have off : COff news I D C := ⟨hoffI, ltN (by omega), ltN (by omega)⟩
  have hst1 : St 0 h₁ := (W { A with handled := none } rfl).frame _ _ _ hst0 fun b hb o e => by
    rcases hfp b hb with rfl | ⟨o', e'⟩ | ⟨o', e'⟩
    · rw [pI] at e; cases e; exact hIo
    · have h1 := p1 _ _ (N _ (hsrc _ e')).1
      rw [h1] at e; cases e
      exact oldS _ _ (N _ (hsrc _ e')).1
    · have h1 := p1 _ _ (F.keep _ _ e')
      rw [h1] at e; cases e
      exact oldS _ _ (F.keep _ _ e')
  have frameSt : ∀ (i : Nat) (h h' : Heap) (oI oC : Obj) (X : Obj), St i h → h.get? I = some oI → Fr h₀ L h m → News h₀ L h news → Fr h₀ L h' m → News h₀ L h' ((C, oC) :: (D, X) :: (I, oI) :: news) → St i h' := fun i h h' oI oC X st hI Fh Nh Fh' Nh' => by
    refine (W { A with handled := none } rfl).frame _ _ _ st fun b hb o e => ?_
    rcases hfp b hb with rfl | ⟨o', e'⟩ | ⟨o', e'⟩
    · rw [hI] at e; cases e; exact (Nh' _ (.tail _ (.tail _ (.head _)))).1
    · have h1 := (Nh _ (hsrc _ e')).1
      rw [h1] at e; cases e
      exact (Nh' _ (.tail _ (.tail _ (.tail _ (hsrc _ e'))))).1
    · have h1 := Fh.keep _ _ e'
      rw [h1] at e; cases e
      exact Fh'.keep _ _ e'
  have hI0 : h₀.get? I = none := fresh I (Nat.le_refl _)
  have loop : codeAny (model prog w) A (.compLoop (.ListComp elt [⟨target, iter, ifs, 0⟩] scope pos) 0 (.ref I) (.ref D) (compEnvC scope cl C env)) (compPost (model prog w) A E use Q (.ref D) C) { s with heap := h₁, toks := s.toks + ([] : List (Str × Value)).length } := by
    refine codeAny_compLoop_go (fun k s' => CompJ s h₀ L m C D I news J St n k s') ?_ n
      ⟨0, [], h₁, _, oI0, oC0, _, rfl, F₁, N₁, hnC0, hj, Nat.le_refl _, hst1, Nat.zero_le _, rfl⟩
    rintro k s' ⟨i, ys, h, tk, oI, oC, mc, rfl, F₂, N₂, hns, hJ, hlen, hst, hi, rfl⟩
    have hnI : ∀ p ∈ (C, oC) :: (D, listOf ys.toArray ys.length) :: news, p.1 ≠ I := fun p hp => by
      rcases List.mem_cons.mp hp with rfl | hp
      · exact neN (by omega)
      · rcases List.mem_cons.mp hp with rfl | hp
        · exact neN (by omega)
        · exact Nat.ne_of_lt (hoffI p hp)
    have keeps : ∀ h' : Heap, (∀ b o, b ∉ [I] → h.get? b = some o → h'.get? b = some o) → Fr h₀ L h' m ∧ News h₀ L h' ((C, oC) :: (D, listOf ys.toArray ys.length) :: news) := fun h' hk => by
      have hk' : ∀ b o, b ≠ I → h.get? b = some o → h'.get? b = some o := fun b o hb => hk b o (by simpa using hb)
      obtain ⟨oL, es, ep, hoL, r⟩ := F₂.ns
      refine ⟨⟨⟨oL, es, ep, hk' _ _ (neN (by omega)) hoL, r⟩, fun b o e => hk' b o (fun q => by rw [q, hI0] at e; cases e) (F₂.keep b o e), F₂.above⟩, fun p hp => ?_⟩
      have hp' : p ∈ (C, oC) :: (D, listOf ys.toArray ys.length) :: (I, oI) :: news := by
        rcases List.mem_cons.mp hp with rfl | hp
        · exact .head _
        · rcases List.mem_cons.mp hp with rfl | hp
          · exact .tail _ (.head _)
          · exact .tail _ (.tail _ (.tail _ hp))
      exact ⟨hk' _ _ (hnI p hp) (N₂ p hp').1, (N₂ p hp').2⟩
    by_cases hin : i < n
    · refine (W A hh).item i _ _ _ hin hst fun v h₃ tk₃ hP hst₃ hk₃ => ?_
      obtain ⟨F₃, N₃'⟩ := keeps h₃ hk₃
      obtain ⟨oI', T, vs, hoI', hIc, hId, hIT⟩ := hpl _ _ hst₃
      have N₃ : News h₀ L h₃ ((C, oC) :: (D, listOf ys.toArray ys.length) :: (I, oI') :: news) := fun p hp => by
        rcases List.mem_cons.mp hp with rfl | hp
        · exact N₃' _ (.head _)
        · rcases List.mem_cons.mp hp with rfl | hp
          · exact N₃' _ (.tail _ (.head _))
          · rcases List.mem_cons.mp hp with rfl | hp
            · exact ⟨hoI', neN (by omega), hI0⟩
            · exact N₃' _ (.tail _ (.tail _ hp))
      refine PlainIter.go (s := { s with heap := h₃, toks := tk₃ }) ⟨oI', T, vs, hoI', hIc, hId, hIT⟩ ?_
      refine wpAny_mono (turn i v ys I D C oI' oC h₃ tk₃ hin hP hlen hJ off F₃ N₃ ⟨mc, hns⟩ _ ⟨fun _ _ h => h⟩) (fun _ s₂ hb => wpAny_mono hb (fun ok s₃ hok => ?_) fun _ _ x => x.elim) fun _ _ x => x.elim
      cases ok with
      | false =>
        rw [if_neg Bool.false_ne_true] at hok ⊢
        obtain ⟨h', tk', oC', mc', rfl, F', N', hns', hJ'⟩ := hok
        exact ⟨n - (i + 1), by omega, i + 1, ys, h', tk', oI', oC', mc', rfl, F', N', hns', hJ', by omega, frameSt (i + 1) h₃ h' oI' oC' _ hst₃ hoI' F₃ (fun p hp => N₃ p (.tail _ (.tail _ (.tail _ hp)))) F' N', hin, rfl⟩
      | true =>
        rw [if_pos rfl] at hok ⊢
        refine wpAny_mono hok (fun y s₄ hy => ?_) fun _ _ x => x.elim
        obtain ⟨h', tk', oC', mc', rfl, F', N', hns', hJ'⟩ := hy
        have hst' := frameSt (i + 1) h₃ h' oI' oC' _ hst₃ hoI' F₃ (fun p hp => N₃ p (.tail _ (.tail _ (.tail _ hp)))) F' N'
        have hDn := N' (D, listOf ys.toArray ys.length) (.tail _ (.head _))
        refine append_at (hsz := by rw [sizeLine_eq, List.size_toArray]; omega) hDn.1 fun h₅ hs₅ hD₅ => ?_
        have F₅ : Fr h₀ L h₅ m := F'.change hs₅ hDn.2.1 hDn.2.2
        have hne : ∀ p ∈ (C, oC') :: (I, oI') :: news, p.1 ≠ D := fun p hp => by
          rcases List.mem_cons.mp hp with rfl | hp
          · exact neN (by omega)
          · rcases List.mem_cons.mp hp with rfl | hp
            · exact neN (by omega)
            · have := hoffI p hp
              exact Nat.ne_of_lt (Nat.lt_trans this (ltN (by omega)))
        have N₅ : News h₀ L h₅ ((C, oC') :: (D, listOf (ys ++ [y]).toArray (ys ++ [y]).length) :: (I, oI') :: news) := fun p hp => by
          rcases List.mem_cons.mp hp with rfl | hp
          · have := N' (C, oC') (.head _); exact ⟨(hs₅.2 C (hne _ (.head _))).trans this.1, this.2⟩
          · rcases List.mem_cons.mp hp with rfl | hp
            · refine ⟨hD₅.trans ?_, hDn.2⟩
              simp [List.push_toArray]
            · have := N' p (.tail _ (.tail _ hp)); exact ⟨(hs₅.2 p.1 (hne _ (.tail _ hp))).trans this.1, this.2⟩
        refine ⟨n - (i + 1), by omega, i + 1, ys ++ [y], h₅, tk', oI', oC', mc', rfl, F₅, N₅, hns', hJ', by rw [List.length_append, List.length_singleton]; omega, ?_, hin, rfl⟩
        exact frameSt (i + 1) h' h₅ oI' oC' _ hst' (N' _ (.tail _ (.tail _ (.head _)))).1 F' (fun p hp => N' p (.tail _ (.tail _ (.tail _ hp)))) F₅ N₅
    · have hin : i = n := by omega
      subst hin
      refine (W A hh).done _ _ _ hst fun h₃ tk₃ hk₃ => ?_
      obtain ⟨F₃, N₃⟩ := keeps h₃ hk₃
      exact done ys D C oC h₃ tk₃ hlen hJ (fun p hp => Nat.lt_trans (hoffI p hp) off.d) off.c F₃ N₃ ⟨mc, hns⟩
  exact codeAny_compStart_list loop ((W A hh).self 0 _ _ _ hst1 loop)
theorem comp_walk0 {prog : Program} {w : World} {A : Around} {s : Shared} {env : Env} {h₀ : Heap} {L : Addr} {m : Str → Option Value} {news src : List (Addr × Obj)} {E Q : Value → Shared → Prop}
    {elt target iter : Expr} {ifs : List Expr} {scope : Scope} {pos : Pos} {cl : List (Str × Addr)}
    {xv : Value} {n : Nat} {P : Nat → Value → Prop} (hh : A.handled = none) (F : Fr h₀ L s.heap m) (N : News h₀ L s.heap news) (S : Src prog w A h₀ src xv s n P) (hsrc : ∀ p ∈ src, p ∈ news)
    (hcell : ∀ y ∈ scope.names, y.2 ≠ .cell) (hkind : scope.kind = .function)
    (J : Nat → List Value → Prop) (hj : J 0 []) (hsz : n ≤ 16777216)
    (turn : ∀ i v ys I D C oI oC h tk, i < n → P i v → ys.length ≤ i → J i ys → COff news I D C → Fr h₀ L h m → News h₀ L h ((C, oC) :: (D, listOf ys.toArray ys.length) :: (I, oI) :: news) → (∃ mc, NsO oC mc) → ∀ Z, HidEq (CompEnd h₀ L m I D C oI news (J (i + 1)) ys s) Z →
      wpAny (model prog w) A (assign target (compEnvC scope cl C env) v) (fun _ s₂ =>
        wpAny (model prog w) A (forIn ifs true fun c r => if r = true then do let ok ← isTrue c (compEnvC scope cl C env) (eval c (compEnvC scope cl C env)); pure (ForInStep.yield ok) else pure (ForInStep.yield r)) (fun ok s₃ =>
          if ok = true then wpAny (model prog w) A (eval elt (compEnvC scope cl C env)) (fun y => Hid Z (some y)) (fun _ _ => False) s₃
          else Hid Z none s₃) (fun _ _ => False) s₂) (fun _ _ => False) { s with heap := h, toks := tk })
    (done : ∀ ys D h tk, ys.length ≤ n → J n ys → (∀ p ∈ news, p.1 < D) → Fr h₀ L h m → News h₀ L h ((D, listOf ys.toArray ys.length) :: news) → Q (.ref D) { s with heap := h, toks := tk }) :
    CompM prog w A env elt target iter ifs scope pos cl none Q E xv s :=
  comp_walk hh F N S hsrc hcell hkind J hj hsz turn fun ys D C oC h tk hl hJ ho hDC F' N' hns => by
    obtain ⟨mc, hns⟩ := hns
    have hC := N' (C, oC) (.head _)
    refine ⟨mc, hns.ns hC.1, fun h' hs => ?_⟩
    refine done ys D h' tk hl hJ ho (F'.change hs hC.2.1 hC.2.2) fun p hp => ?_
    have hne : p.1 ≠ C := by
      rcases List.mem_cons.mp hp with rfl | hp
      · exact Nat.ne_of_lt hDC
      · exact Nat.ne_of_lt (Nat.lt_trans (ho p hp) hDC)
    exact ⟨(hs.2 p.1 hne).trans (N' p (.tail _ hp)).1, (N' p (.tail _ hp)).2⟩
theorem comp_walkS {prog : Program} {w : World} {A : Around} {s : Shared} {env : Env} {h₀ : Heap} {m : Str → Option Value} {news src : List (Addr × Obj)} {E : Value → Shared → Prop} {Q : Flow → Shared → Prop}
    {elt target iter : Expr} {ifs : List Expr} {scope : Scope} {pos py : Pos} {cl : List (Str × Addr)} {y : Str}
    {xv : Value} {n : Nat} {P : Nat → Value → Prop} (hh : A.handled = none) (F : Fr h₀ env.locals s.heap m) (N : News h₀ env.locals s.heap news) (S : Src prog w A h₀ src xv s n P) (hsrc : ∀ p ∈ src, p ∈ news)
    (hcell : ∀ y ∈ scope.names, y.2 ≠ .cell) (hkind : scope.kind = .function)
    (hy : env.kindOf y = some .local) (hp : (env.scope.kind == .class || (env.scope.kind == .module && env.locals != env.globals)) = false)
    (J : Nat → List Value → Prop) (hj : J 0 []) (hsz : n ≤ 16777216)
    (turn : ∀ i v ys I D C oI oC h tk, i < n → P i v → ys.length ≤ i → J i ys → COff news I D C → Fr h₀ env.locals h m → News h₀ env.locals h ((C, oC) :: (D, listOf ys.toArray ys.length) :: (I, oI) :: news) → (∃ mc, NsO oC mc) → ∀ Z, HidEq (CompEnd h₀ env.locals m I D C oI news (J (i + 1)) ys s) Z →
      wpAny (model prog w) A (assign target (compEnvC scope cl C env) v) (fun _ s₂ =>
        wpAny (model prog w) A (forIn ifs true fun c r => if r = true then do let ok ← isTrue c (compEnvC scope cl C env) (eval c (compEnvC scope cl C env)); pure (ForInStep.yield ok) else pure (ForInStep.yield r)) (fun ok s₃ =>
          if ok = true then wpAny (model prog w) A (eval elt (compEnvC scope cl C env)) (fun y => Hid Z (some y)) (fun _ _ => False) s₃
          else Hid Z none s₃) (fun _ _ => False) s₂) (fun _ _ => False) { s with heap := h, toks := tk })
    (done : ∀ ys D h tk, ys.length ≤ n → J n ys → (∀ p ∈ news, p.1 < D) → Fr h₀ env.locals h (fun z => if z = y then some (.ref D) else m z) → News h₀ env.locals h ((D, listOf ys.toArray ys.length) :: news) → Q .next { s with heap := h, toks := tk }) :
    CompM prog w A env elt target iter ifs scope pos cl (some (assign (.Name y py) env)) (fun _ s' => Q .next s') E xv s :=
  comp_walk hh F N S hsrc hcell hkind J hj hsz turn fun ys D C oC h tk hl hJ ho hDC F' N' hns => by
    obtain ⟨mc, hns⟩ := hns
    have hC := N' (C, oC) (.head _)
    show wpAny _ A (assign (.Name y py) env (.ref D)) _ _ _
    refine wpAny_assign_Name (wpAny_storeName_local hy F'.ns (fun h₂ hn₂ hs₂ => ?_) hp)
    refine ⟨mc, (hns.ns hC.1).sameBut hs₂ hC.2.1, fun h' hs => ?_⟩
    refine done ys D h' _ hl hJ ho ((F'.set hn₂ hs₂).change hs hC.2.1 hC.2.2) fun p hp => ?_
    have hne : p.1 ≠ C := by
      rcases List.mem_cons.mp hp with rfl | hp
      · exact Nat.ne_of_lt hDC
      · exact Nat.ne_of_lt (Nat.lt_trans (ho p hp) hDC)
    have hp' := N' p (.tail _ hp)
    exact ⟨(hs.2 p.1 hne).trans ((hs₂.2 p.1 hp'.2.1).trans hp'.1), hp'.2⟩
theorem Assign_M {prog : Program} {w : World} {A : Around} {s : Shared} {env : Env} {E : Value → Shared → Prop} {Q : Flow → Shared → Prop} {elt target iter : Expr} {ifs : List Expr} {scope : Scope} {pos spos py : Pos} {cl : List (Str × Addr)} {y : Str}
    (hsw : swapsWith (.ListComp elt [⟨target, iter, ifs, 0⟩] scope pos) (some (.Name y py)) spos.line env = pure true)
    (hclos : closureFor scope env = pure cl) (hkind : scope.kind = .function) (hnames : ∀ x ∈ scope.names, x.2 = .local → scope.names.lookup x.1 = some .local)
    (h : wpAny (model prog w) A (eval iter env) (fun xv s₁ => CompM prog w A env elt target iter ifs scope pos cl (some (assign (.Name y py) env)) (fun _ s' => Q .next s') E xv s₁) E s)
    (hs : ∀ x, foldedSetIterable iter env x = pure x := by intro _; rfl) : wpAny (model prog w) A (exec (.Assign [.Name y py] (.ListComp elt [⟨target, iter, ifs, 0⟩] scope pos) spos) env) Q E s := by
  rw [exec_Assign_Name_used _ _ _ _ hsw]
  refine wpAny_bind (wpAny_standAt (wpAny_bind ?_))
  show wpAny _ A (do let _ ← comprehension (.ListComp elt [⟨target, iter, ifs, 0⟩] scope pos) scope env _ (newList []) false (eval iter env) (some (assign (.Name y py) env))) _ _ s
  exact wpAny_bind (wpAny_mono (wpAny_comprehension_free (use := some (assign (.Name y py) env)) (Q := fun _ s' => Q .next s') rfl hs hclos hkind hnames h) (fun _ s' hq => wpAny_pure (wpAny_pure hq)) fun _ _ e => e)
/- text Sl -/
theorem w_Sl : True := by
  w_top off
  exact trivial
section
variable {prog : Program} {w : World} {A : Around} {E : Value → Shared → Prop} {s : Shared} {h₀ : Heap} {L : Addr} {m : Str → Option Value} {news : List (Addr × Obj)}
theorem wpAny_listItems {a : Addr} {o : Obj} {xs : Array Value} {n : Nat} {Q : Array Value → Shared → Prop} (ho : s.heap.get? a = some o) (hd : o.data = .seq xs n) (h : Q xs s) : wpAny (model prog w) A (Builtin.List.listItems (.ref a)) Q E s := by
  unfold Builtin.List.listItems
  exact wpAny_bind (wpAny_seqItems ho hd (wpAny_pure h))
theorem wpAny_listAllItems {a : Addr} {o : Obj} {xs : Array Value} {n : Nat} {msg : String} {Q : Array Value → Shared → Prop} (ho : s.heap.get? a = some o) (hc : o.cls = .type "list") (hd : o.data = .seq xs n) (h : Q xs s) : wpAny (model prog w) A (Builtin.List.listAllItems (.ref a) msg) Q E s := by
  unfold Builtin.List.listAllItems
  refine wpAny_bind (wpAny_typeOf (T := "list") ⟨_, ho, hc⟩ ?_)
  rw [if_pos (by decide)]
  exact wpAny_listItems ho hd h
theorem setSlice {l sl D : Addr} {its ys : Array Value} {n nD : Nat} {Q : Unit → Shared → Prop} (ho : s.heap.get? l = some (listOf its n)) (hs : s.heap.IsSliceOf sl .none .none .none) (hD : s.heap.get? D = some (listOf ys nD)) (hne : l ≠ D)
    (hz : its.size ≤ 1000) (hz' : ys.size ≤ 1000)
    (h : ∀ h' n', Heap.SameBut l s.heap h' → h'.get? l = some (listOf ys n') → Q () { s with heap := h' }) :
    wpAny (model prog w) A (setItem (.ref l) (.ref sl) (.ref D)) Q E s := by
  have hl : s.heap.IsList l its := ⟨_, ho, rfl, n, rfl⟩
  obtain ⟨os, hos, hcs, hds⟩ := id hs
  have hTs : s.TypeIs (.ref sl) "slice" := ⟨os, hos, hcs⟩
  unfold setItem
  refine wpAny_holding ?_
  refine wpAny_bind (wpAny_sequenceKey hl.typeIs (by decide) ?_)
  refine wpAny_bind (wpAny_callSpecial?_slot (name := Str.ofString "__setitem__") hl.typeIs F.slot_list_setitem
    (wpAny_call_entry F.slot_list_setitem hl.typeIs F.entry_list_setitem ?_ (F.args_list_setitem_3 _ _ _)))
  show wpAny _ _ (Builtin.List.listSubscript? (.ref sl) >>= _) _ _ s
  refine wpAny_bind ?_
  unfold Builtin.List.listSubscript?
  refine wpAny_bind (wpAny_specialOf hTs slice_no_index ?_)
  simp only [Option.isNone_none, if_true]
  refine wpAny_pure ?_
  show wpAny _ _ (typeOf (.ref sl) >>= _) _ _ s
  refine wpAny_bind (wpAny_typeOf hTs ?_)
  rw [if_neg (by decide)]
  rw [listSliceParts_eq]
  refine wpAny_bind (wpAny_bind (wpAny_field hos hds (x := .none) rfl (wpAny_bind (wpAny_listPart .none ?_))))
  rw [if_neg (by decide)]
  refine wpAny_bind (wpAny_field hos hds (x := .none) rfl (wpAny_bind (wpAny_listPart .none ?_)))
  refine wpAny_bind (wpAny_field hos hds (x := .none) rfl (wpAny_bind (wpAny_listPart .none (wpAny_pure ?_))))
  dsimp only [rawPart]
  have hsame : Builtin.List.listSameRef (.ref l) (.ref D) = false := by
    unfold Builtin.List.listSameRef
    simpa using hne
  rw [hsame]
  simp only [Bool.false_eq_true, if_false]
  refine wpAny_bind (wpAny_listAllItems hD rfl rfl ?_)
  refine wpAny_bind (wpAny_listItems ho rfl ?_)
  have hsi : sliceIndices .none .none .none its.size = pure (sliceBounds none none none its.size) := sliceIndices_raw none none none its.size (by simp)
  refine wpAny_bind (wpAny_of_eq hsi ?_)
  have hb : sliceBounds none none none its.size = (0, (its.size : Int), 1) := rfl
  rw [hb]
  dsimp only
  rw [if_pos (by decide)]
  refine wpAny_bind (wpAny_rule ?_)
  rw [if_neg (by unfold Builtin.List.listTooLong; simp only [decide_eq_true_eq]; rw [sizeLine_eq]; omega)]
  refine wpAny_bind (m := Builtin.List.listUpdate _ _) ?_
  unfold Builtin.List.listUpdate
  have e1 : (its.extract 0 (Int.toNat 0) ++ ys ++ its.extract (max (0 : Int) (its.size : Int)).toNat its.size) = ys := by
    have h1 : (max (0 : Int) (its.size : Int)).toNat = its.size := by omega
    rw [h1]
    apply Array.toList_inj.mp
    simp
  refine wpAny_updateSeq ho rfl ?_ (by rw [sizeLine_eq]; omega) (by rw [e1, sizeLine_eq]; omega)
  refine wpAny_bind (wpAny_letGo (wpAny_pure ⟨_, rfl, wpAny_pure ?_⟩))
  refine h _ (if ys.size == its.size then n else n + 1) (Heap.SameBut.update ..) ?_
  rw [Heap.get?_update_self _ ho rfl]
  show some (Obj.mapSeq _ (listOf its n)) = _
  unfold Obj.mapSeq
  dsimp only
  rw [e1]
theorem setSlice_K {h : Heap} {g d tk o} {l D : Addr} {its ys : Array Value} {n nD : Nat} {gn : Obj → List (Addr × Obj)} {Q : Unit → Shared → Prop} (F : Fr h₀ L h m) (N : News h₀ L h news) (U : UpdF l (listOf its n) news gn) (hD : (D, listOf ys nD) ∈ news) (hne : l ≠ D)
    (hz : its.size ≤ 1000) (hz' : ys.size ≤ 1000)
    (k : ∀ h' n', Fr h₀ L h' m → News h₀ L h' (gn (listOf ys n')) → Q () ⟨h', g, d, tk, o⟩) :
    wpAny (model prog w) A (setItem (.ref l) (.ref h.objs.size) (.ref D)) Q E ⟨h.push { cls := .type "slice", data := .fields #[.none, .none, .none] }, g, d, tk, o⟩ := by
  obtain ⟨own, rest, rfl, hg, h1, h2⟩ := U.split
  have hm := N (l, listOf its n) (List.mem_append_right _ (.head _))
  have F' := F.push { cls := .type "slice", data := .fields #[.none, .none, .none] }
  have N' : News h₀ L (h.push { cls := .type "slice", data := .fields #[.none, .none, .none] }) (own ++ (l, listOf its n) :: rest) := fun p hp => ⟨Heap.get?_push_of_some _ (N p hp).1, (N p hp).2⟩
  refine setSlice (Heap.get?_push_of_some _ hm.1) (Heap.IsSliceOf.new ..) (Heap.get?_push_of_some _ (N _ hD).1) hne hz hz' fun h' n' hs ho' => ?_
  exact k h' n' (F'.change hs hm.2.1 hm.2.2) (hg _ ▸ N'.setAt h1 h2 hs ho')
end
theorem slice_all (xs : List Value) : slicePick xs.toArray none none none = xs.toArray := by
  have h := slicePick_run xs.toArray 0 xs.length (by simp) (Nat.zero_le _)
  have e : slicePick xs.toArray none none none = slicePick xs.toArray (some (0 : Nat)) (some (xs.length : Nat)) none := by
    unfold slicePick
    have e1 : sliceBounds none none none xs.toArray.size = sliceBounds (some ((0 : Nat) : Int)) (some ((xs.length : Nat) : Int)) none xs.toArray.size := by
      have h1 : ¬ (((0 : Nat) : Int) < 0) := by omega
      have h2 : ¬ (((xs.length : Nat) : Int) < 0) := by omega
      simp only [sliceBounds, Option.getD_none, List.size_toArray, show (1 : Int) > 0 by decide, if_true, h1, h2, if_false]
      refine Prod.ext ?_ (Prod.ext ?_ rfl) <;> dsimp only <;> omega
    rw [e1]
  rw [e, h]
  simp
theorem slice_take (xs : List Value) (k : Nat) : slicePick xs.toArray none (some (k : Int)) none = (xs.take k).toArray := by
  have h := slicePick_run xs.toArray 0 (min k xs.length) (by simp; omega) (Nat.zero_le _)
  have e : slicePick xs.toArray none (some (k : Int)) none = slicePick xs.toArray (some (0 : Nat)) (some ((min k xs.length : Nat) : Int)) none := by
    unfold slicePick
    have e1 : sliceBounds none (some (k : Int)) none xs.toArray.size = sliceBounds (some ((0 : Nat) : Int)) (some ((min k xs.length : Nat) : Int)) none xs.toArray.size := by
      have h1 : ¬ (((0 : Nat) : Int) < 0) := by omega
      have h2 : ¬ (((k : Nat) : Int) < 0) := by omega
      have h3 : ¬ (((min k xs.length : Nat) : Int) < 0) := by omega
      simp only [sliceBounds, Option.getD_none, List.size_toArray, show (1 : Int) > 0 by decide, if_true, h1, h2, h3, if_false]
      refine Prod.ext ?_ (Prod.ext ?_ rfl) <;> dsimp only <;> omega
    rw [e1]
  rw [e, h]
  simp [List.take_eq_take_iff]
/- text Di -/
theorem w_Di : True := by
  w_top off
  exact trivial
section
variable {M : Model} {A : Around} {E : Value → Shared → Prop} {s : Shared} {K : Frag} {x C L f : Addr} {h₀ : Heap} {m : Str → Option Value} {ox : Obj} {od : Option Obj} {i v : Value}
theorem delItem_own {Q : Unit → Shared → Prop} (F : Fr h₀ L s.heap m) (X₀ : K.In h₀) (I : InstAt s.heap x ox C od) (hq : noSeq K C = true) (hs : findIn K (.ref C) "__delitem__" = some (some (.ref f))) (hf : isFn K (.ref f) = true)
    (h : wpAny M A (call (.ref f) [.ref x, i]) (fun _ s' => Q () s') E s) : wpAny M A (delItem (.ref x) i) Q E s := by
  have X := X₀.keeps F.keep
  unfold delItem sequenceKey
  refine wpAny_holding (wpAny_bind (wpAny_bind (I.type.here ?_)))
  refine wpAny_bind ((anyM_none X hq).here ?_)
  rw [if_pos (show (!false) = true from rfl)]
  exact wpAny_pure (wpAny_bind (special_fn X I hs (beq_iff_eq.mp hf) (wpAny_mono h (fun _ _ z => wpAny_pure z) fun _ _ z => z)))
end
theorem allLt_all {d : Addr} : ∀ {l : List (Addr × Obj)}, AllLt d l → ∀ p ∈ l, p.1 < d
  | [], _, _, h => nomatch h
  | _ :: _, h, p, hp => by
    rcases List.mem_cons.mp hp with rfl | hp
    · exact h.1
    · exact allLt_all h.2 p hp
theorem appTab {prog : Program} {w : World} {A : Around} {E : Value → Shared → Prop} {s : Shared} {h₀ : Heap} {L : Addr} {m : Str → Option Value} {x dx l : Nat} {H : Int} {t : Tok} {n ep : Nat} {rows : List Row} {pre rest : List (Addr × Obj)} {r : Row} {Q : Value → Shared → Prop} (F : Fr h₀ L s.heap m)
  (N : News h₀ L s.heap (pre ++ (tabL x dx l H t n ep rows ++ rest))) (hpre : ∀ p ∈ pre, p.1 ≠ l) (q1 : l < dx) (q2 : dx < x) (q3 : ∀ p ∈ rest, p.1 ≠ l) (hl : rows.length ≤ 1000)
  (k : ∀ h' n', Fr h₀ L h' m → News h₀ L h' (tabL x dx l H t n n' (rows ++ [r]) ++ (pre ++ rest)) → Q .none { s with heap := h' }) :
    wpAny (model prog w) A (call (.builtin "list.append") [.ref l, .ref r.a]) Q E s := by
  have N1 : News h₀ L s.heap ((pre ++ [(x, instObj 220 dx), (dx, dictOf [⟨H, .str "_headers" t, .ref l⟩] n)]) ++ (l, listOf (refsL rows).toArray ep) :: rest) := fun p hp => N p (by simpa [or_assoc] using hp)
  have z := N1 (l, listOf (refsL rows).toArray ep) (List.mem_append.mpr (.inr (.head _)))
  refine append_at (hsz := by rw [sizeLine_eq]; simp; omega) z.1 fun h' hs ho' => ?_
  refine k h' (ep + 1) (F.change hs z.2.1 z.2.2) ?_
  have N2 := news_set N1 (fun p hp => by
    rcases List.mem_append.mp hp with hp | hp
    · exact hpre p hp
    · simp at hp
      rcases hp with rfl | rfl
      · exact neN (by dsimp only; omega)
      · exact neN (by dsimp only; omega)) q3 hs ho'
  have e : (refsL (rows ++ [r])).toArray = (refsL rows).toArray.push (.ref r.a) := by simp [refsL]
  intro p hp
  refine N2 p ?_
  rw [← e]
  simpa [or_assoc, or_left_comm] using hp
local macro_rules | `(tactic| walk_at "Hid") => `(tactic| (k_here; first | ((rename HidC _ _ _ _ _ _ _ => hh); (first | refine Hid.next hh ?_ | refine Hid.ret hh ?_); clear hh) | ((refine Hid.out (by assumption) ?_); (try dsimp only))))
local macro_rules | `(tactic| walk_at "execs cons") => `(tactic| (k_here; first | k_gentoks | refine execs_one ?_ | (refine hideC ?_; intro _ _ _)))
local macro_rules | `(tactic| walk_at "call builtin:str.lower") => `(tactic| (k_here; (refine low_call (by assumption) ?_); intro t' k'))
local macro_rules | `(tactic| walk_at "call builtin:str.upper") => `(tactic| (k_here; (refine upp_call (by assumption) ?_); intro t' k'))
local macro_rules | `(tactic| walk_at "exec For") => `(tactic| (k_here; (refine For_M ?_)))
local macro_rules | `(tactic| walk_at "exec For Tuple") => `(tactic| (k_here; (refine For_M ?_)))
local macro_rules | `(tactic| walk_at "exec For Name") => `(tactic| (k_here; (refine For_M ?_)))
local macro_rules | `(tactic| walk_at "eval ListComp") => `(tactic| (k_here; k_dflt (refine' Comp_M ?a ?b ?c ?_; (case a => exact rfl); (case b => exact rfl); (case c => decide))))
local macro_rules | `(tactic| walk_at "exec Assign cons ListComp") => `(tactic| (k_here; k_dflt (refine' Assign_M ?a ?b ?c ?d ?_; (case a => exact rfl); (case b => exact rfl); (case c => exact rfl); (case d => decide))))
local macro_rules | `(tactic| walk_at "eval Name") => `(tactic| (k_here; (with_reducible show wpAny _ _ (eval _ (compEnvC _ _ _ _)) _ _ _); k_dflt (first
  | (apply nameC_L; iterate 7 (walk_at "side")) | (apply nameC_C; iterate 7 (walk_at "side")) | (apply nameC_F; iterate 8 (walk_at "side")) | (apply nameC_K; iterate 8 (walk_at "side")) | (apply nameC_B; iterate 11 (walk_at "side"))); k_whole))
local macro_rules | `(tactic| walk_at "side") => `(tactic| first | k_asm | k_mem | k_is | rfl | boot_fast | decide)
local macro_rules | `(tactic| walk_at "storeName") => `(tactic| (k_here; (with_reducible show wpAny _ _ (storeName (compEnvC _ _ _ _) _ _) _ _ _); k_dflt (refine' storeC ?F ?N ?o ?f ?_; (case F => k_asm); (case N => k_asm); (case o => k_asm); (case f => exact COff.ne (by assumption)); k_whole); intro h' oC' F' N' hns'))
local macro_rules | `(tactic| walk_at "forIn") => `(tactic| (k_here; refine wpAny_tests_nil ?_))
local macro_rules | `(tactic| walk_at "forIn") => `(tactic| (k_here; refine wpAny_tests_one ?_))
local macro_rules | `(tactic| k_mem) => `(tactic| assumption)
local macro_rules | `(tactic| k_all) => `(tactic| assumption)
local macro_rules | `(tactic| walk_at "delItem ref str") => `(tactic| (k_here; k_dflt (refine' delItem_own ?F ?X ?I ?hQ ?hS ?hF ?_; (case F => k_asm); (case X => k_asm); (case I => k_inst); (case hS => k_is); (case hF => k_is); (case hQ => k_is); k_whole)))
local macro_rules | `(tactic| walk_at "eval Name") => `(tactic| (k_here; k_dflt (refine' nameX_F ?N ?c ?m ?d ?_ ?a ?b; (case a => rfl); (case b => rfl); (case N => k_asm); (case c => rfl); (case m => k_mem); (case d => k_asm); k_whole)))
local macro_rules | `(tactic| walk_at "exec For Name Call cons nil") => `(tactic| (k_here; k_dflt (refine For_M ?_)))
local macro_rules | `(tactic| walk_at "exec For Name Call") => `(tactic| (k_here; k_dflt (refine For_M ?_)))
local macro_rules | `(tactic| omega) => `(tactic| first | (with_reducible first | assumption | exact room3 ‹_› (by decide) | exact room2 ‹_› (by decide) | exact room1 ‹_› | exact Ne.symm ‹_› | exact Nat.ne_of_lt ‹_› | exact Nat.ne_of_gt ‹_› | exact leK ‹_› (by decide)) | lia | omega (config := {}))
local macro_rules | `(tactic| walk_at "eval Name") => `(tactic| (k_here; dsimp only; walk1))
local macro_rules | `(tactic| walk_at "execs cons") => `(tactic| (k_here; dsimp only; walk1))
local macro_rules | `(tactic| walk_at "eval Constant") => `(tactic| (k_here; dsimp only; walk1))
local macro_rules | `(tactic| walk_at "post") => `(tactic| first | (show (_ : Type)) | assumption | (intro r9 n9 h9 tk9 p9 F9 N9; (repeat (first | (obtain ⟨e9, p9⟩ := p9; (try subst e9)) | subst p9)); (try dsimp only)) | k_mem | exact okn_nm (by assumption) | exact okn_nm (lo_nm (by assumption)) | exact lo_nm (by assumption) | exact up_nm (by assumption) | omega)
local macro_rules | `(tactic| walk_at "call ref") => `(tactic| (k_here; k_dflt (focus ((first | refine' Cx.go (convN _ _ _ _ _ ?_) ?_ | refine' Cx.go (convV _ _ _ _ _ ?_) ?_); all_goals (walk_at "post")))))
/- text T1 -/
theorem w_T1 : True := by
  w_top off
  exact trivial
theorem get_ (w : World) (x dx l H t n ep rows rest) (c : Nat) (nt : Tok) (hn : Nm c) (hr : ∀ r ∈ rows, (r.a, tupO r) ∈ rest) (hrn : ∀ r ∈ rows, Nm r.c) (hl : rows.length ≤ 100) :
  Cx w 10 80 (tabL x dx l H t n ep rows ++ rest) (call (.ref 167) [.ref x, .str (chr c) nt]) (fun r n' => n' = tabL x dx l H t n ep rows ++ rest ∧ r = valR .none (findR c rows)) := by
  unfold Cx
  k_fill
  intro loose mean mg mb dp un gd cn cs a ccd cl outer A₀ base h₀ L m s Q E B F X N T hk hd hu hret
  obtain ⟨s1, s2, s3, s4, s5⟩ := s
  dsimp only at F N hret
  refine wpAny_call ?_
  k_dflt (refine' code_def ?k1 ?k2 ?k3 ?k4 ?k5 ?kA ?kF ?kK ?k6 ?k7 ?k8 ?k9 ?kB ?_ ?c2 ?c3 ?c4 ?c5; (case kA => exact rfl); (case kF => exact rfl); (case kK => assumption); (case k1 => k_asm); (case k2 => k_asm); (case k3 => k_asm); (case k4 => k_asm); (case k5 => k_asm); (case k6 => k_is); (case k7 => k_is); (case k8 => ktr_room); (case k9 => first | exact BindsTo.of_eq rfl | exact binds_K (by k_in) rfl (by k_is) rfl rfl rfl); (case c5 => decide); (case kB => exact locs rfl); (case c2 => exact rfl); (case c3 => exact rfl); (case c4 => exact rfl); k_whole; intro _ _ _ _ _ _ _ _ _; (try dsimp only))
  refine hideQ ?_
  intro QQ EE hQQ
  k_steps
  refine for_walk (J₀ := fun m₀ i m₁ n₁ => n₁ = tabL x dx l H t n ep rows ++ rest ∧ (∃ a b, m₁ = fun y => if y = ("v" : Str) then b else if y = ("k" : Str) then a else m₀ y) ∧ ∀ j r, j < i → rows[j]? = some r → lo r.c ≠ lo c) rfl (by k_asm) (by k_asm) (src_list (by k_asm) (by k_mem)) ⟨rfl, ⟨none, none, kv_start rfl rfl⟩, fun j r hj => absurd hj (Nat.not_lt_zero _)⟩ (fun i m₁ n₁ hJ p hp => by rw [List.mem_singleton.mp hp, hJ.1]; k_mem) ?_ ?_
  · intro i v m₁ n₁ I oI h1 tk1 hi hv hJ hoff F1 N1 ZZ hZZ
    obtain ⟨rfl, ⟨a1, b1, rfl⟩, hno⟩ := hJ
    obtain ⟨r, hri, rfl⟩ := refsL_get hv
    have hr1 : (r.a, tupO r) ∈ (I, oI) :: (tabL x dx l H t n ep rows ++ rest) := .tail _ (List.mem_append_right _ (hr r (List.mem_of_getElem? hri)))
    have hnr : Nm r.c := hrn r (List.mem_of_getElem? hri)
    k_steps
    · dsimp only [TurnEnd]
      k_steps
      rename News h₀ L _ _ => kN
      refine hret _ _ _ _ ⟨rfl, ?_⟩ (by k_asm) fun p hp => kN p (.tail _ hp)
      rw [findR_some hri (chr_eq.mp (by assumption)) hno]; rfl
    · refine ⟨_, _, _, _, rfl, by k_asm, by k_asm, hoff, rfl, ⟨_, _, kv_next⟩, fun j q hj hq => ?_⟩
      rename (_ == _) = false => hne
      rcases Nat.lt_succ_iff_lt_or_eq.mp hj with hj | rfl
      · exact hno j q hj hq
      · rw [hri] at hq; cases hq
        intro e
        rw [chr_eq.mpr e] at hne
        cases hne
  · intro m₁ n₁ h1 tk1 hJ F1 N1
    obtain ⟨rfl, ⟨a1, b1, rfl⟩, hno⟩ := hJ
    dsimp only
    k_steps
    refine hret _ _ _ _ ⟨rfl, ?_⟩ (by k_asm) (by k_asm)
    rw [findR_none (by simpa using hno)]; rfl
/- text T2 -/
theorem w_T2 : True := by
  w_top off
  exact trivial
theorem keys_ (w : World) (x dx l H t n ep rows rest) (hr : ∀ r ∈ rows, (r.a, tupO r) ∈ rest) (hrn : ∀ r ∈ rows, Nm r.c) (hl : rows.length ≤ 100) :
  Cx w 10 80 (tabL x dx l H t n ep rows ++ rest) (call (.ref 172) [.ref x]) (fun r n' => ∃ D ep', n' = (D, listOf (rows.map fun r => Value.str (chr r.c) r.kt).toArray ep') :: (tabL x dx l H t n ep rows ++ rest) ∧ (∀ p ∈ tabL x dx l H t n ep rows ++ rest, p.1 < D) ∧ r = .ref D) := by
  unfold Cx
  k_fill
  intro loose mean mg mb dp un gd cn cs a ccd cl outer A₀ base h₀ L m s Q E B F X N T hk hd hu hret
  obtain ⟨s1, s2, s3, s4, s5⟩ := s
  dsimp only at F N hret
  refine wpAny_call ?_
  k_dflt (refine' code_def ?k1 ?k2 ?k3 ?k4 ?k5 ?kA ?kF ?kK ?k6 ?k7 ?k8 ?k9 ?kB ?_ ?c2 ?c3 ?c4 ?c5; (case kA => exact rfl); (case kF => exact rfl); (case kK => assumption); (case k1 => k_asm); (case k2 => k_asm); (case k3 => k_asm); (case k4 => k_asm); (case k5 => k_asm); (case k6 => k_is); (case k7 => k_is); (case k8 => ktr_room); (case k9 => first | exact BindsTo.of_eq rfl | exact binds_K (by k_in) rfl (by k_is) rfl rfl rfl); (case c5 => decide); (case kB => exact locs rfl); (case c2 => exact rfl); (case c3 => exact rfl); (case c4 => exact rfl); k_whole; intro _ _ _ _ _ _ _ _ _; (try dsimp only))
  refine hideQ ?_
  intro QQ EE hQQ
  k_steps
  refine comp_walk0 rfl (by k_asm) (by k_asm) (src_list (by k_asm) (by k_mem)) (fun p hp => by rw [List.mem_singleton.mp hp]; k_mem) (by decide) rfl (fun i ys => ys = (rows.take i).map fun r => Value.str (chr r.c) r.kt) rfl (by simp; omega) ?_ ?_
  · intro i v ys I D C oI oC h1 tk1 hi hv hlen hJ off F1 N1 hns ZZ hZZ
    obtain ⟨mc, hns⟩ := hns
    obtain ⟨r, hri, rfl⟩ := refsL_get hv
    have hr1 : (r.a, tupO r) ∈ rest := hr r (List.mem_of_getElem? hri)
    k_steps
    exact ⟨_, _, _, _, rfl, by k_asm, by k_asm, by k_asm, by rw [hJ, take_map_succ hri]⟩
  · intro ys D h1 tk1 hlen hJ hD F1 N1
    dsimp only
    k_steps
    refine hret _ _ _ _ ⟨D, ys.length, rfl, hD, rfl⟩ (by k_asm) ?_
    rw [show (rows.map fun r => Value.str (chr r.c) r.kt) = ys by rw [hJ]; simp]
    k_asm
/- text T3 -/
theorem w_T3 : True := by
  w_top off
  exact trivial
theorem items_ (w : World) (x dx l H t n ep rows rest) (hl : rows.length ≤ 100) :
  Cx w 10 80 (tabL x dx l H t n ep rows ++ rest) (call (.ref 184) [.ref x]) (fun r n' => ∃ D ep', n' = (D, listOf (refsL rows).toArray ep') :: (tabL x dx l H t n ep rows ++ rest) ∧ (∀ p ∈ tabL x dx l H t n ep rows ++ rest, p.1 < D) ∧ r = .ref D) := by
  unfold Cx
  k_fill
  intro loose mean mg mb dp un gd cn cs a ccd cl outer A₀ base h₀ L m s Q E B F X N T hk hd hu hret
  obtain ⟨s1, s2, s3, s4, s5⟩ := s
  dsimp only at F N hret
  refine wpAny_call ?_
  k_dflt (refine' code_def ?k1 ?k2 ?k3 ?k4 ?k5 ?kA ?kF ?kK ?k6 ?k7 ?k8 ?k9 ?kB ?_ ?c2 ?c3 ?c4 ?c5; (case kA => exact rfl); (case kF => exact rfl); (case kK => assumption); (case k1 => k_asm); (case k2 => k_asm); (case k3 => k_asm); (case k4 => k_asm); (case k5 => k_asm); (case k6 => k_is); (case k7 => k_is); (case k8 => ktr_room); (case k9 => first | exact BindsTo.of_eq rfl | exact binds_K (by k_in) rfl (by k_is) rfl rfl rfl); (case c5 => decide); (case kB => exact locs rfl); (case c2 => exact rfl); (case c3 => exact rfl); (case c4 => exact rfl); k_whole; intro _ _ _ _ _ _ _ _ _; (try dsimp only))
  refine hideQ ?_
  intro QQ EE hQQ
  k_steps
  rename News h₀ L _ _ => kN
  rename News _ _ _ (tabL x dx l H t n ep rows ++ rest) => N0
  refine' hret _ _ _ _ ⟨_, _, rfl, ?_, rfl⟩ (by k_asm) ?_
  · exact 0
  · exact fun p hp => Nat.lt_succ_of_lt (Heap.lt_size (N0 p hp).1)
  · refine fun p hp => kN p ?_
    rw [slice_all]
    exact hp
theorem delSlice {prog : Program} {w : World} {A : Around} {E : Value → Shared → Prop} {h₀ : Heap} {L : Addr} {m : Str → Option Value} {h : Heap} {g d tk o} {x dx l D c1 : Nat} {co : Obj} {H : Int} {t : Tok} {n ep : Nat} {rows : List Row} {rest : List (Addr × Obj)} {ys : Array Value} {nD : Nat} {Q : Unit → Shared → Prop} (F : Fr h₀ L h m)
  (N : News h₀ L h ((D, listOf ys nD) :: (c1, co) :: (x, instObj 220 dx) :: (dx, dictOf [⟨H, .str "_headers" t, .ref l⟩] n) :: (l, listOf (refsL rows).toArray ep) :: rest))
  (q1 : l < dx) (q2 : dx < x) (q3 : ∀ p ∈ rest, p.1 ≠ l) (a2 : x < c1) (a3 : dx < c1) (a4 : l < c1) (a5 : l < D) (hz : rows.length ≤ 100) (hz' : ys.size ≤ 1000)
  (k : ∀ h' n', Fr h₀ L h' m → News h₀ L h' ((D, listOf ys nD) :: (c1, co) :: (x, instObj 220 dx) :: (dx, dictOf [⟨H, .str "_headers" t, .ref l⟩] n) :: (l, listOf ys n') :: rest) → Q () ⟨h', g, d, tk, o⟩) :
    wpAny (model prog w) A (setItem (.ref l) (.ref h.objs.size) (.ref D)) Q E ⟨h.push { cls := .type "slice", data := .fields #[.none, .none, .none] }, g, d, tk, o⟩ :=
  setSlice_K (n := ep) (its := (refsL rows).toArray) (ys := ys) (gn := fun o' => (D, listOf ys nD) :: (c1, co) :: (x, instObj 220 dx) :: (dx, dictOf [⟨H, .str "_headers" t, .ref l⟩] n) :: (l, o') :: rest) F N
    (UpdF.tail (neN (by dsimp only; omega)) (UpdF.tail (neN (by dsimp only; omega)) (UpdF.tail (neN (by dsimp only; omega)) (UpdF.tail (neN (by dsimp only; omega)) (UpdF.head q3))))) (.head _) (neN (by omega)) (by simp; omega) hz' k
theorem del_ (w : World) (x dx l H t n ep rows rest) (c : Nat) (nt : Tok) (hn : Nm c) (hr : ∀ r ∈ rows, (r.a, tupO r) ∈ rest) (hrn : ∀ r ∈ rows, Nm r.c) (hl : rows.length ≤ 100) (hs : SepT x dx l rest) :
  Cx w 10 80 (tabL x dx l H t n ep rows ++ rest) (call (.ref 138) [.ref x, .str (chr c) nt]) (fun r n' => r = .none ∧ ∃ ep', n' = tabL x dx l H t n ep' (rows.filter fun r => lo r.c != lo c) ++ rest) := by
  unfold Cx
  k_fill
  intro loose mean mg mb dp un gd cn cs a ccd cl outer A₀ base h₀ L m s Q E B F X N T hk hd hu hret
  obtain ⟨s1, s2, s3, s4, s5⟩ := s
  dsimp only at F N hret
  have q1 := hs.a
  have q2 := hs.b
  have q3 := hs.c
  refine wpAny_call ?_
  k_dflt (refine' code_defC ?k1 ?k2 ?k3 ?k4 ?k5 ?kA ?kF ?kK ?k6 ?k7 ?k8 ?k9 ?kB ?kD ?_ ?c2 ?c3 ?c4; (case kA => exact rfl); (case kF => exact rfl); (case kK => assumption); (case k1 => k_asm); (case k2 => k_asm); (case k3 => k_asm); (case k4 => k_asm); (case k5 => k_asm); (case k6 => k_is); (case k7 => k_is); (case k8 => ktr_room); (case k9 => first | exact BindsTo.of_eq rfl | exact binds_K (by k_in) rfl (by k_is) rfl rfl rfl); (case kB => exact rfl); (case kD => decide +kernel); (case c2 => exact rfl); (case c3 => exact rfl); (case c4 => exact rfl); k_whole; intro _ _ _ _ _ _ _ N' Y' _ _ _ _; k_cells Y'; (try simp only [List.cons_append, List.nil_append] at N'); (try dsimp only))
  refine hideQ ?_
  intro QQ EE hQQ
  rename ∀ p ∈ (tabL x dx l H t n ep rows ++ rest), p.1 < _ => l1
  have c1 : ∀ p ∈ rest, p.1 ≠ _ + 1 := fun p hp => Nat.ne_of_lt (Nat.lt_succ_of_lt (l1 p (List.mem_append_right _ hp)))
  have c2 := ltN (l1 _ (.head _))
  have c3 := ltN (l1 _ (.tail _ (.head _)))
  have c4 := ltN (l1 _ (.tail _ (.tail _ (.head _))))
  dsimp only at c2 c3 c4
  k_steps
  refine comp_walk0 rfl (by k_asm) (by k_asm) (src_list (by k_asm) (by k_mem)) (fun p hp => by rw [List.mem_singleton.mp hp]; k_mem) (by decide) rfl (fun i ys => ys = refsL ((rows.take i).filter fun r => lo r.c != lo c)) rfl (by simp; omega) ?_ ?_
  · intro i v ys I D C oI oC h1 tk1 hi hv hlen hJ off F1 N1 hns ZZ hZZ
    obtain ⟨mc, hns⟩ := hns
    obtain ⟨r, hri, rfl⟩ := refsL_get hv
    have hr1 : (r.a, tupO r) ∈ rest := hr r (List.mem_of_getElem? hri)
    have hnr : Nm r.c := hrn r (List.mem_of_getElem? hri)
    k_steps
    · exact ⟨_, _, _, _, rfl, by k_asm, by k_asm, by k_asm, by
        rename (_ != _) = true => hne
        have hlo : (lo r.c != lo c) = true := bne_iff_ne.mpr fun e => (bne_iff_ne.mp hne) (by rw [e])
        rw [hJ, take_filter_succ hri, hlo]; simp [refsL]⟩
    · exact ⟨_, _, _, _, rfl, by k_asm, by k_asm, by k_asm, by
        rename (_ != _) = false => hne
        have hlo : (lo r.c != lo c) = false := by
          have e1 : chr (lo r.c) = chr (lo c) := by simpa using hne
          have e2 : lo r.c = lo c := by simpa using e1
          rw [e2]; simp
        rw [hJ, take_filter_succ hri, hlo]; simp⟩
  · intro ys D h1 tk1 hlen hJ hD F1 N1
    have d1 := ltN (hD _ (.tail _ (.tail _ (.tail _ (.head _)))))
    dsimp only at d1 ⊢
    have hys : ys = refsL (rows.filter fun r => lo r.c != lo c) := by rw [hJ]; simp
    have hlen2 : (rows.filter fun r => lo r.c != lo c).length ≤ 100 := Nat.le_trans (List.length_filter_le _ _) hl
    k_steps
    refine delSlice F1 N1 q1 q2 q3 (by omega) (by omega) (by omega) (by omega) hl (by rw [hys]; simpa using (by omega : (rows.filter fun r => lo r.c != lo c).length ≤ 1000)) ?_
    intro h2 n2 F2 N2
    k_steps
    rename News h₀ L _ _ => kN
    refine hret _ _ _ _ ⟨rfl, n2, rfl⟩ (by k_asm) fun p hp => kN p (.tail _ (.tail _ ?_))
    rw [hys]
    exact hp
/- text T7 -/
theorem w_T7 : True := by
  w_top off
  exact trivial
section
local macro_rules | `(tactic| walk_at "call ref") => `(tactic| (k_here; k_dflt (focus ((first | refine' Cx.go (escape_cdata _ _ _ _ ?_) ?_ | refine' Cx.go (escape_cdata_c14n _ _ _ _ ?_) ?_ | refine' Cx.go (escape_attrib _ _ _ _ ?_) ?_ | refine' Cx.go (escape_attrib_html _ _ _ _ ?_) ?_ | refine' Cx.go (escape_attrib_c14n _ _ _ _ ?_) ?_); all_goals (walk_at "post")))))
noncomputable def refsW : Nat → List (Nat × List Nat)
  | 0 => refs0
  | 1 => refs1
  | 2 => refs2
  | 3 => refs3
  | _ => refs4
noncomputable def handS (way : Nat) (x : Str) : Str := ⟨(handL (refsW way) x.cps.toList).toArray⟩
theorem hand0 (w : World) (x : Str) (t tw : Tok) (news) (hx : x.cps.toList.length ≤ 10000) : Cx w 20 140 news (call (.ref 287) [.int 0 tw, .str x t]) (fun r n' => n' = news ∧ ∃ t', r = .str (handS 0 x) t') := by
  unfold Cx
  k_fill
  intro loose mean mg mb dp un gd cn cs a ccd cl outer A₀ base h₀ L m s Q E B F X N T hk hd hu hret
  obtain ⟨s1, s2, s3, s4, s5⟩ := s
  dsimp only at F N hret
  refine wpAny_call ?_
  k_dflt (refine' code_def ?k1 ?k2 ?k3 ?k4 ?k5 ?kA ?kF ?kK ?k6 ?k7 ?k8 ?k9 ?kB ?_ ?c2 ?c3 ?c4 ?c5; (case kA => exact rfl); (case kF => exact rfl); (case kK => assumption); (case k1 => k_asm); (case k2 => k_asm); (case k3 => k_asm); (case k4 => k_asm); (case k5 => k_asm); (case k6 => k_is); (case k7 => k_is); (case k8 => ktr_room); (case k9 => first | exact BindsTo.of_eq rfl | exact binds_K (by k_in) rfl (by k_is) rfl rfl rfl); (case c5 => decide); (case kB => exact locs rfl); (case c2 => exact rfl); (case c3 => exact rfl); (case c4 => exact rfl); k_whole; intro _ _ _ _ _ _ _ _ _; (try dsimp only))
  refine hideQ ?_
  intro QQ EE hQQ
  k_steps
  rename News h₀ L _ _ => kN
  rename _ = handL _ _ => hy9
  refine' hret _ _ _ _ ⟨rfl, _, congrArg (Value.str · _) ?_⟩ (by k_asm) (by k_asm)
  exact congrArg (fun l => (⟨l.toArray⟩ : Str)) hy9
theorem hand1 (w : World) (x : Str) (t tw : Tok) (news) (hx : x.cps.toList.length ≤ 10000) : Cx w 20 140 news (call (.ref 287) [.int 1 tw, .str x t]) (fun r n' => n' = news ∧ ∃ t', r = .str (handS 1 x) t') := by
  unfold Cx
  k_fill
  intro loose mean mg mb dp un gd cn cs a ccd cl outer A₀ base h₀ L m s Q E B F X N T hk hd hu hret
  obtain ⟨s1, s2, s3, s4, s5⟩ := s
  dsimp only at F N hret
  refine wpAny_call ?_
  k_dflt (refine' code_def ?k1 ?k2 ?k3 ?k4 ?k5 ?kA ?kF ?kK ?k6 ?k7 ?k8 ?k9 ?kB ?_ ?c2 ?c3 ?c4 ?c5; (case kA => exact rfl); (case kF => exact rfl); (case kK => assumption); (case k1 => k_asm); (case k2 => k_asm); (case k3 => k_asm); (case k4 => k_asm); (case k5 => k_asm); (case k6 => k_is); (case k7 => k_is); (case k8 => ktr_room); (case k9 => first | exact BindsTo.of_eq rfl | exact binds_K (by k_in) rfl (by k_is) rfl rfl rfl); (case c5 => decide); (case kB => exact locs rfl); (case c2 => exact rfl); (case c3 => exact rfl); (case c4 => exact rfl); k_whole; intro _ _ _ _ _ _ _ _ _; (try dsimp only))
  refine hideQ ?_
  intro QQ EE hQQ
  k_steps
  rename News h₀ L _ _ => kN
  rename _ = handL _ _ => hy9
  refine' hret _ _ _ _ ⟨rfl, _, congrArg (Value.str · _) ?_⟩ (by k_asm) (by k_asm)
  exact congrArg (fun l => (⟨l.toArray⟩ : Str)) hy9
theorem hand2 (w : World) (x : Str) (t tw : Tok) (news) (hx : x.cps.toList.length ≤ 10000) : Cx w 20 140 news (call (.ref 287) [.int 2 tw, .str x t]) (fun r n' => n' = news ∧ ∃ t', r = .str (handS 2 x) t') := by
  unfold Cx
  k_fill
  intro loose mean mg mb dp un gd cn cs a ccd cl outer A₀ base h₀ L m s Q E B F X N T hk hd hu hret
  obtain ⟨s1, s2, s3, s4, s5⟩ := s
  dsimp only at F N hret
  refine wpAny_call ?_
  k_dflt (refine' code_def ?k1 ?k2 ?k3 ?k4 ?k5 ?kA ?kF ?kK ?k6 ?k7 ?k8 ?k9 ?kB ?_ ?c2 ?c3 ?c4 ?c5; (case kA => exact rfl); (case kF => exact rfl); (case kK => assumption); (case k1 => k_asm); (case k2 => k_asm); (case k3 => k_asm); (case k4 => k_asm); (case k5 => k_asm); (case k6 => k_is); (case k7 => k_is); (case k8 => ktr_room); (case k9 => first | exact BindsTo.of_eq rfl | exact binds_K (by k_in) rfl (by k_is) rfl rfl rfl); (case c5 => decide); (case kB => exact locs rfl); (case c2 => exact rfl); (case c3 => exact rfl); (case c4 => exact rfl); k_whole; intro _ _ _ _ _ _ _ _ _; (try dsimp only))
  refine hideQ ?_
  intro QQ EE hQQ
  k_steps
  rename News h₀ L _ _ => kN
  rename _ = handL _ _ => hy9
  refine' hret _ _ _ _ ⟨rfl, _, congrArg (Value.str · _) ?_⟩ (by k_asm) (by k_asm)
  exact congrArg (fun l => (⟨l.toArray⟩ : Str)) hy9
theorem hand3 (w : World) (x : Str) (t tw : Tok) (news) (hx : x.cps.toList.length ≤ 10000) : Cx w 20 140 news (call (.ref 287) [.int 3 tw, .str x t]) (fun r n' => n' = news ∧ ∃ t', r = .str (handS 3 x) t') := by
  unfold Cx
  k_fill
  intro loose mean mg mb dp un gd cn cs a ccd cl outer A₀ base h₀ L m s Q E B F X N T hk hd hu hret
  obtain ⟨s1, s2, s3, s4, s5⟩ := s
  dsimp only at F N hret
  refine wpAny_call ?_
  k_dflt (refine' code_def ?k1 ?k2 ?k3 ?k4 ?k5 ?kA ?kF ?kK ?k6 ?k7 ?k8 ?k9 ?kB ?_ ?c2 ?c3 ?c4 ?c5; (case kA => exact rfl); (case kF => exact rfl); (case kK => assumption); (case k1 => k_asm); (case k2 => k_asm); (case k3 => k_asm); (case k4 => k_asm); (case k5 => k_asm); (case k6 => k_is); (case k7 => k_is); (case k8 => ktr_room); (case k9 => first | exact BindsTo.of_eq rfl | exact binds_K (by k_in) rfl (by k_is) rfl rfl rfl); (case c5 => decide); (case kB => exact locs rfl); (case c2 => exact rfl); (case c3 => exact rfl); (case c4 => exact rfl); k_whole; intro _ _ _ _ _ _ _ _ _; (try dsimp only))
  refine hideQ ?_
  intro QQ EE hQQ
  k_steps
  rename News h₀ L _ _ => kN
  rename _ = handL _ _ => hy9
  refine' hret _ _ _ _ ⟨rfl, _, congrArg (Value.str · _) ?_⟩ (by k_asm) (by k_asm)
  exact congrArg (fun l => (⟨l.toArray⟩ : Str)) hy9
theorem hand4 (w : World) (x : Str) (t tw : Tok) (news) (hx : x.cps.toList.length ≤ 10000) : Cx w 20 140 news (call (.ref 287) [.int 4 tw, .str x t]) (fun r n' => n' = news ∧ ∃ t', r = .str (handS 4 x) t') := by
  unfold Cx
  k_fill
  intro loose mean mg mb dp un gd cn cs a ccd cl outer A₀ base h₀ L m s Q E B F X N T hk hd hu hret
  obtain ⟨s1, s2, s3, s4, s5⟩ := s
  dsimp only at F N hret
  refine wpAny_call ?_
  k_dflt (refine' code_def ?k1 ?k2 ?k3 ?k4 ?k5 ?kA ?kF ?kK ?k6 ?k7 ?k8 ?k9 ?kB ?_ ?c2 ?c3 ?c4 ?c5; (case kA => exact rfl); (case kF => exact rfl); (case kK => assumption); (case k1 => k_asm); (case k2 => k_asm); (case k3 => k_asm); (case k4 => k_asm); (case k5 => k_asm); (case k6 => k_is); (case k7 => k_is); (case k8 => ktr_room); (case k9 => first | exact BindsTo.of_eq rfl | exact binds_K (by k_in) rfl (by k_is) rfl rfl rfl); (case c5 => decide); (case kB => exact locs rfl); (case c2 => exact rfl); (case c3 => exact rfl); (case c4 => exact rfl); k_whole; intro _ _ _ _ _ _ _ _ _; (try dsimp only))
  refine hideQ ?_
  intro QQ EE hQQ
  k_steps
  rename News h₀ L _ _ => kN
  rename _ = handL _ _ => hy9
  refine' hret _ _ _ _ ⟨rfl, _, congrArg (Value.str · _) ?_⟩ (by k_asm) (by k_asm)
  exact congrArg (fun l => (⟨l.toArray⟩ : Str)) hy9
theorem hand_ (w : World) (way : Nat) (x : Str) (t tw : Tok) (news) (hw : way < 5) (hx : x.cps.toList.length ≤ 10000) : Cx w 20 140 news (call (.ref 287) [.int (way : Nat) tw, .str x t]) (fun r n' => n' = news ∧ ∃ t', r = .str (handS way x) t') :=
  match way, hw with
  | 0, _ => hand0 w x t tw news hx
  | 1, _ => hand1 w x t tw news hx
  | 2, _ => hand2 w x t tw news hx
  | 3, _ => hand3 w x t tw news hx
  | 4, _ => hand4 w x t tw news hx
end
/- text Wh -/
theorem w_Wh : True := by
  w_top off
  exact trivial
section
variable {prog : Program} {w : World} {A : Around} {E : Value → Shared → Prop} {Q : Flow → Shared → Prop} {s : Shared} {env : Env} {h₀ : Heap} {L : Addr}
noncomputable def WhileM (prog : Program) (w : World) (A : Around) (env : Env) (test : Expr) (body : List Stmt) (pos : Pos) (Q : Flow → Shared → Prop) (E : Value → Shared → Prop) (s : Shared) : Prop := wpAny (model prog w) A (exec (.While test body [] pos) env) Q E s
theorem While_start {test : Expr} {body : List Stmt} {pos : Pos} (h : WhileM prog w A env test body pos Q E s) : wpAny (model prog w) A (exec (.While test body [] pos) env) Q E s := h
theorem While_M {test : Expr} {body : List Stmt} {pos : Pos} {m : Str → Option Value} {news : List (Addr × Obj)} (J : (Str → Option Value) → Nat → (Str → Option Value) → List (Addr × Obj) → Prop) {n₀ : Nat}
    (F : Fr h₀ L s.heap m) (N : News h₀ L s.heap news) (hJ : J m n₀ m news)
    (turn : ∀ n m₁ news₁ h₁ tk₁, Fr h₀ L h₁ m₁ → News h₀ L h₁ news₁ → J m n m₁ news₁ →
      wpAny (model prog w) A (isTrue test env (eval test env)) (fun b s₂ =>
        if b = true then wpAny (model prog w) A (execs body env) (WhileStep h₀ L s (J m) n) (fun _ _ => False) s₂ else Q .next s₂) (fun _ _ => False) { s with heap := h₁, toks := tk₁ }) :
    WhileM prog w A env test body pos Q E s :=
  wpAny_mono (While_inv (J m) F N hJ turn) (fun _ _ h => h) (fun _ _ h => h.elim)
end
noncomputable def bis (f : Nat → Bool) : Nat → Nat → Nat → Nat
  | 0, lo, _ => lo
  | n + 1, lo, hi => if lo < hi then (if f ((lo + hi) / 2) = true then bis f n lo ((lo + hi) / 2) else bis f n ((lo + hi) / 2 + 1) hi) else lo
theorem bis_end (f : Nat → Bool) {lo hi : Nat} (h : ¬ lo < hi) : ∀ n, bis f n lo hi = lo
  | 0 => rfl
  | n + 1 => by rw [bis, if_neg h]
theorem bis_le (f : Nat → Bool) {lo hi : Nat} (h : lo ≤ hi) : ∀ n, bis f n lo hi ≤ hi := by
  intro n
  induction n generalizing lo hi with
  | zero => exact h
  | succ n ih =>
    rw [bis]
    split
    · split
      · have := ih (lo := lo) (hi := (lo + hi) / 2) (by omega); omega
      · exact ih (by omega)
    · exact h
theorem map3 {m : Str → Option Value} {x y z : Str} (hx : m x = none) (hxy : x ≠ y) (hxz : x ≠ z) (hyz : y ≠ z) : m = fun u => if u = x then none else if u = y then m y else if u = z then m z else m u := by
  funext u
  by_cases h : u = x
  · rw [if_pos h, h, hx]
  · rw [if_neg h]
    by_cases h' : u = y
    · rw [if_pos h', h']
    · rw [if_neg h']
      by_cases h'' : u = z
      · rw [if_pos h'', h'']
      · rw [if_neg h'']
theorem map3g {m : Str → Option Value} {x y z : Str} {a b c : Option Value} (hx : m x = a) (hy : m y = b) (hz : m z = c) : m = fun u => if u = x then a else if u = y then b else if u = z then c else m u := by
  funext u
  by_cases h : u = x
  · rw [if_pos h, h, hx]
  · rw [if_neg h]
    by_cases h' : u = y
    · rw [if_pos h', h', hy]
    · rw [if_neg h']
      by_cases h'' : u = z
      · rw [if_pos h'', h'', hz]
      · rw [if_neg h'']
theorem map3y {m : Str → Option Value} {x y z : Str} {a b c d e : Option Value} (hxy : y ≠ x) : (fun u => if u = y then d else if u = x then e else if u = x then a else if u = y then b else if u = z then c else m u) = fun u => if u = x then e else if u = y then d else if u = z then c else m u := by
  funext u
  by_cases h : u = x
  · have : u ≠ y := fun q => hxy (q ▸ h)
    simp [h, this, Ne.symm hxy]
  · by_cases h' : u = y <;> simp [h, h', hxy]
theorem map3z {m : Str → Option Value} {x y z : Str} {a b c d e : Option Value} (hxz : z ≠ x) (hyz : z ≠ y) : (fun u => if u = z then d else if u = x then e else if u = x then a else if u = y then b else if u = z then c else m u) = fun u => if u = x then e else if u = y then b else if u = z then d else m u := by
  funext u
  by_cases h : u = x
  · subst h; simp [Ne.symm hxz]
  · by_cases h' : u = y
    · subst h'; simp [h, Ne.symm hyz]
    · by_cases h'' : u = z <;> simp [h, h', h'', hxz, hyz]
theorem bis_fuel (f : Nat → Bool) : ∀ (n k : Nat) {lo hi : Nat}, hi - lo ≤ n → hi - lo ≤ k → bis f n lo hi = bis f k lo hi
  | 0, k, lo, hi, h1, _ => by rw [bis_end f (by omega) 0, bis_end f (by omega) k]
  | n + 1, 0, lo, hi, _, h2 => by rw [bis_end f (by omega) 0, bis_end f (by omega) (n + 1)]
  | n + 1, k + 1, lo, hi, h1, h2 => by
    rw [bis, bis]
    split
    · split
      · exact bis_fuel f n k (by omega) (by omega)
      · exact bis_fuel f n k (by omega) (by omega)
    · rfl
noncomputable abbrev nmV (p : Nat × Tok) : Value := .str (chr p.1) p.2
local macro_rules | `(tactic| walk_at "exec While") => `(tactic| (k_here; (refine While_start ?_)))
/- text T4 -/
theorem w_T4 : True := by
  w_top off
  exact trivial
section
local macro_rules | `(tactic| walk_at "call ref") => `(tactic| (k_here; k_dflt (focus ((refine' Cx.go (del_ _ _ _ _ _ _ _ _ _ _ _ _ ?_ ?_ ?_ ?_ ?_) ?_); all_goals (walk_at "post")))))
theorem setitem_ (w : World) (x dx l H t n ep rows rest) (c : Nat) (nt : Tok) (v : Str) (vt : Tok) (hn : Nm c) (hv : OkV v) (hr : ∀ r ∈ rows, (r.a, tupO r) ∈ rest) (hrn : ∀ r ∈ rows, Nm r.c) (hl : rows.length ≤ 100) (hs : SepT x dx l rest) :
  Cx w 16 120 (tabL x dx l H t n ep rows ++ rest) (call (.ref 133) [.ref x, .str (chr c) nt, .str v vt]) (fun r n' => r = .none ∧ ∃ D ep', n' = tabL x dx l H t n ep' ((rows.filter fun r => lo r.c != lo c) ++ [⟨D, c, nt, v, vt⟩]) ++ ((D, tupO ⟨D, c, nt, v, vt⟩) :: rest) ∧ (∀ p ∈ rest, p.1 < D) ∧ l < D) := by
  unfold Cx
  k_fill
  intro loose mean mg mb dp un gd cn cs a ccd cl outer A₀ base h₀ L m s Q E B F X N T hk hd hu hret
  obtain ⟨s1, s2, s3, s4, s5⟩ := s
  dsimp only at F N hret
  have q1 := hs.a
  have q2 := hs.b
  have q3 := hs.c
  refine wpAny_call ?_
  k_dflt (refine' code_def ?k1 ?k2 ?k3 ?k4 ?k5 ?kA ?kF ?kK ?k6 ?k7 ?k8 ?k9 ?kB ?_ ?c2 ?c3 ?c4 ?c5; (case kA => exact rfl); (case kF => exact rfl); (case kK => assumption); (case k1 => k_asm); (case k2 => k_asm); (case k3 => k_asm); (case k4 => k_asm); (case k5 => k_asm); (case k6 => k_is); (case k7 => k_is); (case k8 => ktr_room); (case k9 => first | exact BindsTo.of_eq rfl | exact binds_K (by k_in) rfl (by k_is) rfl rfl rfl); (case c5 => decide); (case kB => exact locs rfl); (case c2 => exact rfl); (case c3 => exact rfl); (case c4 => exact rfl); k_whole; intro _ _ _ _ _ _ _ _ _; (try dsimp only))
  refine hideQ ?_
  intro QQ EE hQQ
  k_steps
  rename_i D hh fF nN lD
  have d1 := ltN (lD _ (List.mem_append_left _ (.tail _ (.tail _ (.head _)))))
  dsimp only at d1
  refine appTab (r := ⟨D, c, nt, v, vt⟩) (pre := [(D, tupO ⟨D, c, nt, v, vt⟩)]) (by k_asm) nN (fun p hp => by rw [List.mem_singleton.mp hp]; exact neN (by dsimp only; omega)) q1 q2 q3 (Nat.le_trans (List.length_filter_le _ _) (by omega)) ?_
  intro h2 n2 F2 N2
  k_steps
  rename News h₀ L _ _ => kN
  refine' hret _ _ _ _ ⟨rfl, D, n2, rfl, fun p hp => lD p (List.mem_append_right _ hp), d1⟩ (by k_asm) kN
theorem getM (w : World) (x dx l H t n ep rows news) (c : Nat) (nt : Tok) (hn : Nm c) (m1 : (x, instObj 220 dx) ∈ news) (m2 : (dx, dictOf [⟨H, .str "_headers" t, .ref l⟩] n) ∈ news) (m3 : (l, listOf (refsL rows).toArray ep) ∈ news) (hr : ∀ r ∈ rows, (r.a, tupO r) ∈ news) (hrn : ∀ r ∈ rows, Nm r.c) (hl : rows.length ≤ 100) :
  Cx w 10 80 news (call (.ref 167) [.ref x, .str (chr c) nt]) (fun r n' => n' = news ∧ r = valR .none (findR c rows)) := by
  intro loose mean mg mb dp un gd cn cs a ccd cl outer A₀ base h₀ L m s Q E B F X N T hk hd hu hret
  refine get_ w x dx l H t n ep rows news c nt hn hr hrn hl loose mean mg mb dp un gd cn cs a ccd cl outer A₀ base h₀ L m s Q E B F X ?_ T hk hd hu ?_
  · intro p hp
    rcases List.mem_append.mp hp with hp | hp
    · refine N p ?_
      simp at hp
      rcases hp with rfl | rfl | rfl <;> assumption
    · exact N p hp
  · intro r n' h' tk' hp F' N'
    exact hret r news h' tk' ⟨rfl, hp.2⟩ F' fun p hp' => N' p (by rw [hp.1]; exact List.mem_append_right _ hp')
theorem getS (w : World) (x dx l H t n ep rows rest) (c : Nat) (nt : Tok) (hn : Nm c) (hr : ∀ r ∈ rows, (r.a, tupO r) ∈ rest) (hrn : ∀ r ∈ rows, Nm r.c) (hl : rows.length ≤ 100) (r0 : Row) (hf : findR c rows = some r0) :
  Cx w 10 80 (tabL x dx l H t n ep rows ++ rest) (call (.ref 167) [.ref x, .str (chr c) nt]) (fun r n' => n' = tabL x dx l H t n ep rows ++ rest ∧ r = .str r0.v r0.vt) :=
  (get_ w x dx l H t n ep rows rest c nt hn hr hrn hl).post fun _ _ ⟨h1, h2⟩ => ⟨h1, by rw [h2, hf]; rfl⟩
theorem getN (w : World) (x dx l H t n ep rows rest) (c : Nat) (nt : Tok) (hn : Nm c) (hr : ∀ r ∈ rows, (r.a, tupO r) ∈ rest) (hrn : ∀ r ∈ rows, Nm r.c) (hl : rows.length ≤ 100) (hf : findR c rows = none) :
  Cx w 10 80 (tabL x dx l H t n ep rows ++ rest) (call (.ref 167) [.ref x, .str (chr c) nt]) (fun r n' => n' = tabL x dx l H t n ep rows ++ rest ∧ r = .none) :=
  (get_ w x dx l H t n ep rows rest c nt hn hr hrn hl).post fun _ _ ⟨h1, h2⟩ => ⟨h1, by rw [h2, hf]; rfl⟩
theorem getMS (w : World) (x dx l H t n ep rows news) (c : Nat) (nt : Tok) (hn : Nm c) (m1 : (x, instObj 220 dx) ∈ news) (m2 : (dx, dictOf [⟨H, .str "_headers" t, .ref l⟩] n) ∈ news) (m3 : (l, listOf (refsL rows).toArray ep) ∈ news) (hr : ∀ r ∈ rows, (r.a, tupO r) ∈ news) (hrn : ∀ r ∈ rows, Nm r.c) (hl : rows.length ≤ 100) (r0 : Row) (hf : findR c rows = some r0) :
  Cx w 10 80 news (call (.ref 167) [.ref x, .str (chr c) nt]) (fun r n' => n' = news ∧ r = .str r0.v r0.vt) :=
  (getM w x dx l H t n ep rows news c nt hn m1 m2 m3 hr hrn hl).post fun _ _ ⟨h1, h2⟩ => ⟨h1, by rw [h2, hf]; rfl⟩
end
/- text T10 -/
theorem w_T10 : True := by
  w_top off
  exact trivial
section
local macro_rules | `(tactic| walk_at "exec While Compare") => `(tactic| (k_here; (refine While_start ?_)))
local macro_rules | `(tactic| walk_at "callWith ref") => `(tactic| (k_here; k_dflt (refine' callWith_F ?k1 ?_; (case k1 => exact FnAt.of (by k_asm) (by k_mem)); k_whole)))
inductive BisJR (row : List (Nat × Tok)) (g : Nat → Int) (gx : Int) (news : List (Addr × Obj)) (m₀ : Str → Option Value) (n : Nat) (m₁ : Str → Option Value) (n₁ : List (Addr × Obj)) : Prop
  | mk (h00 : n₁ = news) (lo hi : Nat) (tlo thi : Tok) (c : Option Value) (h1 : hi ≤ row.length) (h2 : lo ≤ hi) (h3 : n = hi - lo) (h4 : (∀ k, n ≤ k → bis (fun i => decide (gx < g (row.getD i (0, 0)).1)) k lo hi = bis (fun i => decide (gx < g (row.getD i (0, 0)).1)) row.length 0 row.length)) (h5 : m₁ = fun y => if y = ("mid" : Str) then c else if y = ("hi" : Str) then some (.int (hi : Nat) thi) else if y = ("lo" : Str) then some (.int (lo : Nat) tlo) else m₀ y) : BisJR row g gx news m₀ n m₁ n₁
theorem bisR_ (w : World) (ro : Addr) (row : List (Nat × Tok)) (ep : Nat) (kf : Addr) (news) (g : Nat → Int) (gx : Int) (tx t0 : Tok) (hm : (ro, listOf (row.map nmV).toArray ep) ∈ news) (hl : row.length ≤ 100) (oc od fd sl) (hfm : (kf, (⟨oc, od, .func fd, sl⟩ : Obj)) ∈ news)
  (hkey : ∀ p ∈ row, Cx w 50 400 news (call (.ref kf) [nmV p]) (fun r n' => n' = news ∧ ∃ t', r = .int (g p.1) t')) :
  Cx w 60 500 news (call (.ref 56) [.ref ro, .int gx tx, .int 0 t0, .none] [("key", .ref kf)]) (fun r n' => n' = news ∧ ∃ t', r = .int (bis (fun i => decide (gx < g (row.getD i (0, 0)).1)) row.length 0 row.length : Nat) t') := by
  unfold Cx
  k_fill
  intro loose mean mg mb dp un gd cn cs a ccd cl outer A₀ base h₀ L m s Q E B F X N T hk hd hu hret
  obtain ⟨s1, s2, s3, s4, s5⟩ := s
  dsimp only at F N hret
  refine wpAny_call ?_
  k_dflt (refine' code_def ?k1 ?k2 ?k3 ?k4 ?k5 ?kA ?kF ?kK ?k6 ?k7 ?k8 ?k9 ?kB ?_ ?c2 ?c3 ?c4 ?c5; (case kA => exact rfl); (case kF => exact rfl); (case kK => assumption); (case k1 => k_asm); (case k2 => k_asm); (case k3 => k_asm); (case k4 => k_asm); (case k5 => k_asm); (case k6 => k_is); (case k7 => k_is); (case k8 => ktr_room); (case k9 => first | exact BindsTo.of_eq rfl | exact binds_K (by k_in) rfl (by k_is) rfl rfl rfl); (case c5 => decide); (case kB => exact locs rfl); (case c2 => exact rfl); (case c3 => exact rfl); (case c4 => exact rfl); k_whole; intro _ _ _ _ _ _ _ _ _; (try dsimp only))
  refine hideQ ?_
  intro QQ EE hQQ
  k_steps
  refine len_list (News.isList (by k_asm) (by k_mem)) (by simp; omega) ?_
  simp only [List.size_toArray, List.length_map]
  k_steps
  refine While_M (fun m₀ n m₁ n₁ => BisJR row g gx news m₀ n m₁ n₁) (n₀ := row.length) (by k_asm) (by k_asm) ?_ ?_
  · refine' ⟨rfl, 0, row.length, t0, _, none, Nat.le_refl _, Nat.zero_le _, rfl, fun k hk => bis_fuel _ _ _ (by omega) (by omega), map3g rfl rfl rfl⟩
  · rintro n m₁ n₁ h1 tk1 F1 N1 ⟨rfl, lo, hi, tlo, thi, c, hh, hlo, rfl, hb, rfl⟩
    k_steps
    · rename (lo : Int) < hi => hlt
      have hlt2 : lo < hi := by omega
      have hfd : ((lo : Int) + hi).fdiv 2 = (((lo + hi) / 2 : Nat) : Int) := by
        rw [Int.fdiv_eq_ediv_of_nonneg _ (by omega)]; omega
      obtain ⟨p, hp⟩ : ∃ p, row[(lo + hi) / 2]? = some p := ⟨_, List.getElem?_eq_getElem (by omega)⟩
      have hg : row.getD ((lo + hi) / 2) (0, 0) = p := by rw [List.getD_eq_getElem?_getD, hp]; rfl
      rename Fr _ _ _ _ => fF
      rw [hfd] at fF ⊢
      refine item_listL (x := nmV p) (l := row.map nmV) (News.isList (by k_asm) (by k_mem)) (by omega) (by omega) (by rw [List.getElem?_map, Int.toNat_natCast, hp]; rfl) ?_
      k_steps
      refine' Cx.use (hkey p (List.mem_of_getElem? hp)) (by k_asm) (by k_asm) (by k_asm) (by k_asm) (by k_asm) (by first | exact rfl | assumption) (by ktr_room) (by ktr_units) ?_
      rintro r9 n9 h9 tk9 ⟨rfl, t9, rfl⟩ F9 N9
      k_steps
      · have hv : (decide (gx < g p.1)) = true := decide_eq_true (by first | assumption | omega)
        refine WhileStep.intro (by k_asm) (by k_asm) ?_ ⟨rfl, lo, (lo + hi) / 2, tlo, _, _, by omega, by omega, rfl, ?_, map3y (by decide)⟩
        · omega
        · intro k hk
          rw [← hb (k + hi + 1) (by omega), bis, if_pos hlt2, if_pos (by rw [hg]; exact hv)]
          exact bis_fuel _ _ _ (by omega) (by omega)
      · have hv : ¬ (decide (gx < g p.1)) = true := by
          intro e; have := of_decide_eq_true e; omega
        rename Fr _ _ _ _ => fF2
        rw [show (((lo + hi) / 2 : Nat) : Int) + 1 = (((lo + hi) / 2 + 1 : Nat) : Int) by omega] at fF2
        refine WhileStep.intro (by k_asm) (by k_asm) ?_ ⟨rfl, (lo + hi) / 2 + 1, hi, _, thi, _, by omega, by omega, rfl, ?_, map3z (by decide) (by decide)⟩
        · omega
        · intro k hk
          rw [← hb (k + hi + 1) (by omega), bis, if_pos hlt2, if_neg (by rw [hg]; exact hv)]
          exact bis_fuel _ _ _ (by omega) (by omega)
    · rename ¬ ((lo : Int) < hi) => hlt
      rename News h₀ L _ _ => kN
      refine' hret _ _ _ _ ⟨rfl, tlo, ?_⟩ (by k_asm) kN
      rw [← hb (hi - lo) (Nat.le_refl _), bis_end _ (by omega)]
inductive BisJL (row : List (Nat × Tok)) (g : Nat → Int) (gx : Int) (news : List (Addr × Obj)) (m₀ : Str → Option Value) (n : Nat) (m₁ : Str → Option Value) (n₁ : List (Addr × Obj)) : Prop
  | mk (h00 : n₁ = news) (lo hi : Nat) (tlo thi : Tok) (c : Option Value) (h1 : hi ≤ row.length) (h2 : lo ≤ hi) (h3 : n = hi - lo) (h4 : (∀ k, n ≤ k → bis (fun i => decide (gx ≤ g (row.getD i (0, 0)).1)) k lo hi = bis (fun i => decide (gx ≤ g (row.getD i (0, 0)).1)) row.length 0 row.length)) (h5 : m₁ = fun y => if y = ("mid" : Str) then c else if y = ("hi" : Str) then some (.int (hi : Nat) thi) else if y = ("lo" : Str) then some (.int (lo : Nat) tlo) else m₀ y) : BisJL row g gx news m₀ n m₁ n₁
theorem bisL_ (w : World) (ro : Addr) (row : List (Nat × Tok)) (ep : Nat) (kf : Addr) (news) (g : Nat → Int) (gx : Int) (tx t0 : Tok) (hm : (ro, listOf (row.map nmV).toArray ep) ∈ news) (hl : row.length ≤ 100) (oc od fd sl) (hfm : (kf, (⟨oc, od, .func fd, sl⟩ : Obj)) ∈ news)
  (hkey : ∀ p ∈ row, Cx w 50 400 news (call (.ref kf) [nmV p]) (fun r n' => n' = news ∧ ∃ t', r = .int (g p.1) t')) :
  Cx w 60 500 news (call (.ref 74) [.ref ro, .int gx tx, .int 0 t0, .none] [("key", .ref kf)]) (fun r n' => n' = news ∧ ∃ t', r = .int (bis (fun i => decide (gx ≤ g (row.getD i (0, 0)).1)) row.length 0 row.length : Nat) t') := by
  unfold Cx
  k_fill
  intro loose mean mg mb dp un gd cn cs a ccd cl outer A₀ base h₀ L m s Q E B F X N T hk hd hu hret
  obtain ⟨s1, s2, s3, s4, s5⟩ := s
  dsimp only at F N hret
  refine wpAny_call ?_
  k_dflt (refine' code_def ?k1 ?k2 ?k3 ?k4 ?k5 ?kA ?kF ?kK ?k6 ?k7 ?k8 ?k9 ?kB ?_ ?c2 ?c3 ?c4 ?c5; (case kA => exact rfl); (case kF => exact rfl); (case kK => assumption); (case k1 => k_asm); (case k2 => k_asm); (case k3 => k_asm); (case k4 => k_asm); (case k5 => k_asm); (case k6 => k_is); (case k7 => k_is); (case k8 => ktr_room); (case k9 => first | exact BindsTo.of_eq rfl | exact binds_K (by k_in) rfl (by k_is) rfl rfl rfl); (case c5 => decide); (case kB => exact locs rfl); (case c2 => exact rfl); (case c3 => exact rfl); (case c4 => exact rfl); k_whole; intro _ _ _ _ _ _ _ _ _; (try dsimp only))
  refine hideQ ?_
  intro QQ EE hQQ
  k_steps
  refine len_list (News.isList (by k_asm) (by k_mem)) (by simp; omega) ?_
  simp only [List.size_toArray, List.length_map]
  k_steps
  refine While_M (fun m₀ n m₁ n₁ => BisJL row g gx news m₀ n m₁ n₁) (n₀ := row.length) (by k_asm) (by k_asm) ?_ ?_
  · refine' ⟨rfl, 0, row.length, t0, _, none, Nat.le_refl _, Nat.zero_le _, rfl, fun k hk => bis_fuel _ _ _ (by omega) (by omega), map3g rfl rfl rfl⟩
  · rintro n m₁ n₁ h1 tk1 F1 N1 ⟨rfl, lo, hi, tlo, thi, c, hh, hlo, rfl, hb, rfl⟩
    k_steps
    · rename (lo : Int) < hi => hlt
      have hlt2 : lo < hi := by omega
      have hfd : ((lo : Int) + hi).fdiv 2 = (((lo + hi) / 2 : Nat) : Int) := by
        rw [Int.fdiv_eq_ediv_of_nonneg _ (by omega)]; omega
      obtain ⟨p, hp⟩ : ∃ p, row[(lo + hi) / 2]? = some p := ⟨_, List.getElem?_eq_getElem (by omega)⟩
      have hg : row.getD ((lo + hi) / 2) (0, 0) = p := by rw [List.getD_eq_getElem?_getD, hp]; rfl
      rename Fr _ _ _ _ => fF
      rw [hfd] at fF ⊢
      refine item_listL (x := nmV p) (l := row.map nmV) (News.isList (by k_asm) (by k_mem)) (by omega) (by omega) (by rw [List.getElem?_map, Int.toNat_natCast, hp]; rfl) ?_
      k_steps
      refine' Cx.use (hkey p (List.mem_of_getElem? hp)) (by k_asm) (by k_asm) (by k_asm) (by k_asm) (by k_asm) (by first | exact rfl | assumption) (by ktr_room) (by ktr_units) ?_
      rintro r9 n9 h9 tk9 ⟨rfl, t9, rfl⟩ F9 N9
      k_steps
      · have hv : ¬ (decide (gx ≤ g p.1)) = true := by
          intro e; have := of_decide_eq_true e; omega
        rename Fr _ _ _ _ => fF2
        rw [show (((lo + hi) / 2 : Nat) : Int) + 1 = (((lo + hi) / 2 + 1 : Nat) : Int) by omega] at fF2
        refine WhileStep.intro (by k_asm) (by k_asm) ?_ ⟨rfl, (lo + hi) / 2 + 1, hi, _, thi, _, by omega, by omega, rfl, ?_, map3z (by decide) (by decide)⟩
        · omega
        · intro k hk
          rw [← hb (k + hi + 1) (by omega), bis, if_pos hlt2, if_neg (by rw [hg]; exact hv)]
          exact bis_fuel _ _ _ (by omega) (by omega)
      · have hv : (decide (gx ≤ g p.1)) = true := decide_eq_true (by first | assumption | omega)
        refine WhileStep.intro (by k_asm) (by k_asm) ?_ ⟨rfl, lo, (lo + hi) / 2, tlo, _, _, by omega, by omega, rfl, ?_, map3y (by decide)⟩
        · omega
        · intro k hk
          rw [← hb (k + hi + 1) (by omega), bis, if_pos hlt2, if_pos (by rw [hg]; exact hv)]
          exact bis_fuel _ _ _ (by omega) (by omega)
    · rename ¬ ((lo : Int) < hi) => hlt
      rename News h₀ L _ _ => kN
      refine' hret _ _ _ _ ⟨rfl, tlo, ?_⟩ (by k_asm) kN
      rw [← hb (hi - lo) (Nat.le_refl _), bis_end _ (by omega)]
end
/- text T5 -/
theorem w_T5 : True := by
  w_top off
  exact trivial
section
local macro_rules | `(tactic| walk_at "execs cons") => `(tactic| (k_here; refine wpAny_execs_cons (st := Stmt.For _ _ _ _ _) ?_))
theorem addhdr_ (w : World) (x dx l H t n ep rows rest) (c : Nat) (nt : Tok) (v : Str) (vt : Tok) (hn : Nm c) (hv : OkV v) (hvl : v.length ≤ 1000) (hl : rows.length ≤ 100) (hs : SepT x dx l rest) :
  Cx w 16 120 (tabL x dx l H t n ep rows ++ rest) (call (.ref 217) [.ref x, .str (chr c) nt, .str v vt]) (fun r n' => r = .none ∧ ∃ D vt' ep', n' = tabL x dx l H t n ep' (rows ++ [⟨D, c, nt, v, vt'⟩]) ++ ((D, tupO ⟨D, c, nt, v, vt'⟩) :: rest) ∧ (∀ p ∈ rest, p.1 < D) ∧ l < D) := by
  unfold Cx
  k_fill
  intro loose mean mg mb dp un gd cn cs a ccd cl outer A₀ base h₀ L m s Q E B F X N T hk hd hu hret
  obtain ⟨s1, s2, s3, s4, s5⟩ := s
  dsimp only at F N hret
  have q1 := hs.a
  have q2 := hs.b
  have q3 := hs.c
  refine wpAny_call ?_
  k_dflt (refine' kp_more ?k1 ?k2 ?k3 ?k4 ?k5 ?kA ?kF ?kK ?k6 ?k7 ?k8 ?kX ?kM ?kN ?kD ?kR ?kP ?kT ?kB ?_ ?c2 ?c3 ?c4 ?c5; (case kA => exact rfl); (case kF => exact rfl); (case kK => assumption); (case k1 => k_asm); (case k2 => k_asm); (case k3 => k_asm); (case k4 => k_asm); (case k5 => k_asm); (case k6 => k_is); (case k7 => k_is); (case k8 => ktr_room); (case kX => kp_lit); (case kM => exact rfl); (case kN => exact rfl); (case kD => kp_flats); (case kR => exact rfl); (case kP => exact rfl); (case kT => exact fun _ => rfl); (case kB => exact fun _ => locs rfl); (case c5 => decide); (case c2 => exact rfl); (case c3 => exact rfl); (case c4 => exact rfl); k_whole; intro _ _ _ _ _ _ l1 _ _ _ _ _ _ _ _ _; (try k_lt l1); (try dsimp only); (try k_fold))
  k_steps
  rename_i vt' kk D hh fF nN lD
  have nN2 : News _ _ hh ([(D, tupO ⟨D, c, nt, v, vt'⟩)] ++ (tabL x dx l H t n ep rows ++ rest)) := fun p hp => by
    rcases List.mem_cons.mp hp with rfl | hp
    · exact nN _ (.head _)
    · exact nN _ (.tail _ (.tail _ (.tail _ (.tail _ hp))))
  have lD2 : ∀ p ∈ tabL x dx l H t n ep rows ++ rest, p.1 < D := allLt_all lD.2.2.2
  have d1 := ltN (lD2 (l, listOf (refsL rows).toArray ep) (List.mem_append_left _ (.tail _ (.tail _ (.head _)))))
  dsimp only at d1
  refine appTab (r := ⟨D, c, nt, v, vt'⟩) (pre := [(D, tupO ⟨D, c, nt, v, vt'⟩)]) (by k_asm) nN2 (fun p hp => by rw [List.mem_singleton.mp hp]; exact neN (by dsimp only; omega)) q1 q2 q3 (by omega) ?_
  intro h2 n2 F2 N2
  k_steps
  rename News h₀ L _ _ => kN
  refine' hret _ _ _ _ ⟨rfl, D, vt', n2, rfl, fun p hp => lD2 p (List.mem_append_right _ hp), d1⟩ (by k_asm) kN
end
/- text T6 -/
theorem w_T6 : True := by
  w_top off
  exact trivial
section
local macro_rules | `(tactic| walk_at "call ref") => `(tactic| (k_here; k_dflt (focus ((refine' Cx.go (getS _ _ _ _ _ _ _ _ _ _ _ _ ?_ ?_ ?_ ?_ _ ?_) ?_); all_goals (walk_at "post")))))
local macro_rules | `(tactic| walk_at "call ref") => `(tactic| (k_here; k_dflt (focus ((refine' Cx.go (getN _ _ _ _ _ _ _ _ _ _ _ _ ?_ ?_ ?_ ?_ ?_) ?_); all_goals (walk_at "post")))))
theorem setdef_some (w : World) (x dx l H t n ep rows rest) (c : Nat) (nt : Tok) (v : Str) (vt : Tok) (hn : Nm c) (hv : OkV v) (r0 : Row) (hf : findR c rows = some r0) (hr : ∀ r ∈ rows, (r.a, tupO r) ∈ rest) (hrn : ∀ r ∈ rows, Nm r.c) (hl : rows.length ≤ 100) (hs : SepT x dx l rest) :
  Cx w 16 120 (tabL x dx l H t n ep rows ++ rest) (call (.ref 210) [.ref x, .str (chr c) nt, .str v vt]) (fun r n' => r = .str r0.v r0.vt ∧ n' = tabL x dx l H t n ep rows ++ rest) := by
  unfold Cx
  k_fill
  intro loose mean mg mb dp un gd cn cs a ccd cl outer A₀ base h₀ L m s Q E B F X N T hk hd hu hret
  obtain ⟨s1, s2, s3, s4, s5⟩ := s
  dsimp only at F N hret
  have q1 := hs.a
  have q2 := hs.b
  have q3 := hs.c
  refine wpAny_call ?_
  k_dflt (refine' code_def ?k1 ?k2 ?k3 ?k4 ?k5 ?kA ?kF ?kK ?k6 ?k7 ?k8 ?k9 ?kB ?_ ?c2 ?c3 ?c4 ?c5; (case kA => exact rfl); (case kF => exact rfl); (case kK => assumption); (case k1 => k_asm); (case k2 => k_asm); (case k3 => k_asm); (case k4 => k_asm); (case k5 => k_asm); (case k6 => k_is); (case k7 => k_is); (case k8 => ktr_room); (case k9 => first | exact BindsTo.of_eq rfl | exact binds_K (by k_in) rfl (by k_is) rfl rfl rfl); (case c5 => decide); (case kB => exact locs rfl); (case c2 => exact rfl); (case c3 => exact rfl); (case c4 => exact rfl); k_whole; intro _ _ _ _ _ _ _ _ _; (try dsimp only))
  refine hideQ ?_
  intro QQ EE hQQ
  k_steps
  rename News h₀ L _ _ => kN
  refine' hret _ _ _ _ ⟨rfl, rfl⟩ (by k_asm) (by k_asm)
theorem setdef_none (w : World) (x dx l H t n ep rows rest) (c : Nat) (nt : Tok) (v : Str) (vt : Tok) (hn : Nm c) (hv : OkV v) (hf : findR c rows = none) (hr : ∀ r ∈ rows, (r.a, tupO r) ∈ rest) (hrn : ∀ r ∈ rows, Nm r.c) (hl : rows.length ≤ 100) (hs : SepT x dx l rest) :
  Cx w 16 120 (tabL x dx l H t n ep rows ++ rest) (call (.ref 210) [.ref x, .str (chr c) nt, .str v vt]) (fun r n' => r = .str v vt ∧ ∃ D ep', n' = tabL x dx l H t n ep' (rows ++ [⟨D, c, nt, v, vt⟩]) ++ ((D, tupO ⟨D, c, nt, v, vt⟩) :: rest) ∧ (∀ p ∈ rest, p.1 < D) ∧ l < D) := by
  unfold Cx
  k_fill
  intro loose mean mg mb dp un gd cn cs a ccd cl outer A₀ base h₀ L m s Q E B F X N T hk hd hu hret
  obtain ⟨s1, s2, s3, s4, s5⟩ := s
  dsimp only at F N hret
  have q1 := hs.a
  have q2 := hs.b
  have q3 := hs.c
  refine wpAny_call ?_
  k_dflt (refine' code_def ?k1 ?k2 ?k3 ?k4 ?k5 ?kA ?kF ?kK ?k6 ?k7 ?k8 ?k9 ?kB ?_ ?c2 ?c3 ?c4 ?c5; (case kA => exact rfl); (case kF => exact rfl); (case kK => assumption); (case k1 => k_asm); (case k2 => k_asm); (case k3 => k_asm); (case k4 => k_asm); (case k5 => k_asm); (case k6 => k_is); (case k7 => k_is); (case k8 => ktr_room); (case k9 => first | exact BindsTo.of_eq rfl | exact binds_K (by k_in) rfl (by k_is) rfl rfl rfl); (case c5 => decide); (case kB => exact locs rfl); (case c2 => exact rfl); (case c3 => exact rfl); (case c4 => exact rfl); k_whole; intro _ _ _ _ _ _ _ _ _; (try dsimp only))
  refine hideQ ?_
  intro QQ EE hQQ
  k_steps
  rename_i D hh fF nN lD
  have d1 := ltN (lD _ (List.mem_append_left _ (.tail _ (.tail _ (.head _)))))
  dsimp only at d1
  refine appTab (r := ⟨D, c, nt, v, vt⟩) (pre := [(D, tupO ⟨D, c, nt, v, vt⟩)]) (by k_asm) nN (fun p hp => by rw [List.mem_singleton.mp hp]; exact neN (by dsimp only; omega)) q1 q2 q3 (by omega) ?_
  intro h2 n2 F2 N2
  k_steps
  rename News h₀ L _ _ => kN
  refine' hret _ _ _ _ ⟨rfl, D, n2, rfl, fun p hp => lD p (List.mem_append_right _ hp), d1⟩ (by k_asm) kN
end
/- text T8 -/
theorem w_T8 : True := by
  w_top off
  exact trivial
section
local macro_rules | `(tactic| walk_at "pad2") => `(tactic| skip)
local macro_rules | `(tactic| walk_at "call ref") => `(tactic| (k_here; k_dflt (focus ((refine' Cx.go (hand_ _ _ _ _ _ _ ?_ ?_) ?_); all_goals (walk_at "post")))))
local macro_rules | `(tactic| walk_at "call ref") => `(tactic| (k_here; k_dflt (focus ((refine' Cx.go (getMS _ _ _ _ _ _ _ _ _ _ _ _ ?_ ?_ ?_ ?_ ?_ ?_ ?_ _ ?_) ?_); all_goals (walk_at "post")))))
theorem growth_ (w : World) (x dx l H t n ep rows news) (way : Nat) (tw : Tok) (c : Nat) (nt : Tok) (r0 : Row) (hf : findR c rows = some r0) (hw : way < 5) (hx : r0.v.cps.toList.length ≤ 10000) (hx1 : r0.v.length ≤ 10000) (hx2 : (handS way r0.v).length ≤ 100000) (hn : Nm c) (m1 : (x, instObj 220 dx) ∈ news) (m2 : (dx, dictOf [⟨H, .str "_headers" t, .ref l⟩] n) ∈ news) (m3 : (l, listOf (refsL rows).toArray ep) ∈ news) (hr : ∀ r ∈ rows, (r.a, tupO r) ∈ news) (hrn : ∀ r ∈ rows, Nm r.c) (hl : rows.length ≤ 100) : Cx w 40 300 news (call (.ref 304) [.ref x, .int (way : Nat) tw, .str (chr c) nt]) (fun r n' => n' = news ∧ ∃ t', r = .int (((handS way r0.v).length : Int) - (r0.v.length : Int)) t') := by
  unfold Cx
  k_fill
  intro loose mean mg mb dp un gd cn cs a ccd cl outer A₀ base h₀ L m s Q E B F X N T hk hd hu hret
  obtain ⟨s1, s2, s3, s4, s5⟩ := s
  dsimp only at F N hret
  refine wpAny_call ?_
  k_dflt (refine' code_def ?k1 ?k2 ?k3 ?k4 ?k5 ?kA ?kF ?kK ?k6 ?k7 ?k8 ?k9 ?kB ?_ ?c2 ?c3 ?c4 ?c5; (case kA => exact rfl); (case kF => exact rfl); (case kK => assumption); (case k1 => k_asm); (case k2 => k_asm); (case k3 => k_asm); (case k4 => k_asm); (case k5 => k_asm); (case k6 => k_is); (case k7 => k_is); (case k8 => ktr_room); (case k9 => first | exact BindsTo.of_eq rfl | exact binds_K (by k_in) rfl (by k_is) rfl rfl rfl); (case c5 => decide); (case kB => exact locs rfl); (case c2 => exact rfl); (case c3 => exact rfl); (case c4 => exact rfl); k_whole; intro _ _ _ _ _ _ _ _ _; (try dsimp only))
  refine hideQ ?_
  intro QQ EE hQQ
  k_steps
  rename News h₀ L _ _ => kN
  refine' hret _ _ _ _ ⟨rfl, _, rfl⟩ (by k_asm) (by k_asm)
end
/- text T11 -/
theorem w_T11 : True := by
  w_top off
  exact trivial
section
local macro_rules | `(tactic| walk_at "callWith ref") => `(tactic| (k_here; k_dflt (refine' callWith_F ?k1 ?_; (case k1 => exact FnAt.of (by k_asm) (by k_mem)); k_whole)))
local macro_rules | `(tactic| walk_at "call ref") => `(tactic| (k_here; rename ∀ q ∈ _, Cx _ _ _ _ _ _ => hkk; k_dflt (focus ((first | refine' Cx.go (bisL_ _ _ _ _ _ _ _ _ _ _ ?_ ?_ _ _ _ _ ?_ (fun q hq => hkk q (.tail _ hq))) ?_ | refine' Cx.go (bisR_ _ _ _ _ _ _ _ _ _ _ ?_ ?_ _ _ _ _ ?_ (fun q hq => hkk q (.tail _ hq))) ?_ | refine' Cx.go (hkk _ ?_) ?_); all_goals (walk_at "post")))))
noncomputable def insAt {α : Type} (i : Nat) (row : List α) (p : α) : List α := row.take i ++ p :: row.drop i
theorem kl_insAt {row : List (Nat × Tok)} {i : Nat} {p : Nat × Tok} (h : i ≤ row.length) : kl_ins (row.map nmV) (i : Nat) (nmV p) = (insAt i row p).map nmV := by
  unfold kl_ins insAt
  rw [if_neg (by omega)]
  simp [Nat.min_eq_left h]
theorem insert_at {prog : Program} {w : World} {A : Around} {E : Value → Shared → Prop} {s : Shared} {h₀ : Heap} {L : Addr} {m : Str → Option Value} {ro : Addr} {row : List (Nat × Tok)} {ep : Nat} {rest : List (Addr × Obj)} {i : Nat} {p : Nat × Tok} {u : Tok} {Q : Value → Shared → Prop} (F : Fr h₀ L s.heap m) (N : News h₀ L s.heap ((ro, listOf (row.map nmV).toArray ep) :: rest)) (hsep : ∀ q ∈ rest, q.1 ≠ ro) (hl : row.length ≤ 100) (hi : i ≤ row.length)
  (h : ∀ h' ep', Fr h₀ L h' m → News h₀ L h' ((ro, listOf ((insAt i row p).map nmV).toArray ep') :: rest) → Q .none { s with heap := h' }) :
    wpAny (model prog w) A (call (.builtin "list.insert") [.ref ro, .int (i : Nat) u, nmV p]) Q E s := by
  refine kl_insert (l := (insAt i row p).map nmV) (n := ep) F N ?_ (kl_insAt hi) (Upd.head hsep) ?_ (fun h' F' N' => h h' _ F' N')
  · unfold Builtin.List.listFitsIndex
    simp only [decide_eq_true_eq, Bool.and_eq_true, Bool.not_eq_true', decide_eq_false_iff_not, Bool.or_eq_true]
    omega
  · simp only [List.length_map, sizeLine_eq]; omega
theorem insR_ (w : World) (ro : Nat) (row : List (Nat × Tok)) (ep : Nat) (kf : Nat) (rest) (g : Nat → Int) (p : Nat × Tok) (hl : row.length ≤ 100) (oc od fd sl) (hfm : (kf, (⟨oc, od, .func fd, sl⟩ : Obj)) ∈ rest) (hsep : ∀ q ∈ rest, q.1 ≠ ro)
  (hkey : ∀ q ∈ p :: row, Cx w 50 400 ((ro, listOf (row.map nmV).toArray ep) :: rest) (call (.ref kf) [nmV q]) (fun r n' => n' = (ro, listOf (row.map nmV).toArray ep) :: rest ∧ ∃ t', r = .int (g q.1) t')) :
  Cx w 80 600 ((ro, listOf (row.map nmV).toArray ep) :: rest) (call (.ref 47) [.ref ro, nmV p] [("key", .ref kf)]) (fun r n' => r = .none ∧ ∃ ep', n' = (ro, listOf ((insAt (bis (fun i => decide (g p.1 < g (row.getD i (0, 0)).1)) row.length 0 row.length) row p).map nmV).toArray ep') :: rest) := by
  unfold Cx
  k_fill
  intro loose mean mg mb dp un gd cn cs a ccd cl outer A₀ base h₀ L m s Q E B F X N T hk hd hu hret
  obtain ⟨s1, s2, s3, s4, s5⟩ := s
  dsimp only at F N hret
  refine wpAny_call ?_
  k_dflt (refine' code_def ?k1 ?k2 ?k3 ?k4 ?k5 ?kA ?kF ?kK ?k6 ?k7 ?k8 ?k9 ?kB ?_ ?c2 ?c3 ?c4 ?c5; (case kA => exact rfl); (case kF => exact rfl); (case kK => assumption); (case k1 => k_asm); (case k2 => k_asm); (case k3 => k_asm); (case k4 => k_asm); (case k5 => k_asm); (case k6 => k_is); (case k7 => k_is); (case k8 => ktr_room); (case k9 => first | exact BindsTo.of_eq rfl | exact binds_K (by k_in) rfl (by k_is) rfl rfl rfl); (case c5 => decide); (case kB => exact locs rfl); (case c2 => exact rfl); (case c3 => exact rfl); (case c4 => exact rfl); k_whole; intro _ _ _ _ _ _ _ _ _; (try dsimp only))
  refine hideQ ?_
  intro QQ EE hQQ
  k_steps
  refine insert_at (by k_asm) (by k_asm) hsep hl (bis_le _ (Nat.zero_le _) _) ?_
  intro h2 ep2 F2 N2
  k_steps
  rename News h₀ L _ _ => kN
  refine' hret _ _ _ _ ⟨rfl, ep2, rfl⟩ (by k_asm) kN
theorem insL_ (w : World) (ro : Nat) (row : List (Nat × Tok)) (ep : Nat) (kf : Nat) (rest) (g : Nat → Int) (p : Nat × Tok) (hl : row.length ≤ 100) (oc od fd sl) (hfm : (kf, (⟨oc, od, .func fd, sl⟩ : Obj)) ∈ rest) (hsep : ∀ q ∈ rest, q.1 ≠ ro)
  (hkey : ∀ q ∈ p :: row, Cx w 50 400 ((ro, listOf (row.map nmV).toArray ep) :: rest) (call (.ref kf) [nmV q]) (fun r n' => n' = (ro, listOf (row.map nmV).toArray ep) :: rest ∧ ∃ t', r = .int (g q.1) t')) :
  Cx w 80 600 ((ro, listOf (row.map nmV).toArray ep) :: rest) (call (.ref 65) [.ref ro, nmV p] [("key", .ref kf)]) (fun r n' => r = .none ∧ ∃ ep', n' = (ro, listOf ((insAt (bis (fun i => decide (g p.1 ≤ g (row.getD i (0, 0)).1)) row.length 0 row.length) row p).map nmV).toArray ep') :: rest) := by
  unfold Cx
  k_fill
  intro loose mean mg mb dp un gd cn cs a ccd cl outer A₀ base h₀ L m s Q E B F X N T hk hd hu hret
  obtain ⟨s1, s2, s3, s4, s5⟩ := s
  dsimp only at F N hret
  refine wpAny_call ?_
  k_dflt (refine' code_def ?k1 ?k2 ?k3 ?k4 ?k5 ?kA ?kF ?kK ?k6 ?k7 ?k8 ?k9 ?kB ?_ ?c2 ?c3 ?c4 ?c5; (case kA => exact rfl); (case kF => exact rfl); (case kK => assumption); (case k1 => k_asm); (case k2 => k_asm); (case k3 => k_asm); (case k4 => k_asm); (case k5 => k_asm); (case k6 => k_is); (case k7 => k_is); (case k8 => ktr_room); (case k9 => first | exact BindsTo.of_eq rfl | exact binds_K (by k_in) rfl (by k_is) rfl rfl rfl); (case c5 => decide); (case kB => exact locs rfl); (case c2 => exact rfl); (case c3 => exact rfl); (case c4 => exact rfl); k_whole; intro _ _ _ _ _ _ _ _ _; (try dsimp only))
  refine hideQ ?_
  intro QQ EE hQQ
  k_steps
  refine insert_at (by k_asm) (by k_asm) hsep hl (bis_le _ (Nat.zero_le _) _) ?_
  intro h2 ep2 F2 N2
  k_steps
  rename News h₀ L _ _ => kN
  refine' hret _ _ _ _ ⟨rfl, ep2, rfl⟩ (by k_asm) kN
end
/- text La -/
theorem w_La : True := by
  w_top off
  exact trivial
theorem cd310 {w : World} {h : Heap} (X : Frag.In (hd.heap_1 w.params) h) : CodeHd h 310 306 :=
  ⟨_, _, _, _, _, _, _, _, _, X 310 _ rfl, rfl, rfl, rfl, rfl, rfl, rfl, rfl, rfl, by decide⟩
noncomputable def Tab (line col : Nat) (qual : Str) (ps : Array Value) (rest : List (Addr × Obj)) : Prop :=
  ps = #[] ∨ ∃ (c' : Addr) (oc : Obj) (vs : Array Value) (t : Tok), ps = #[rawInt line, rawInt col, .ref c'] ∧ (c', oc) ∈ rest ∧ oc.data = .fields vs ∧ vs[1]? = some (.str qual t)
theorem Tab.mono {line col : Nat} {qual : Str} {ps : Array Value} {rest rest' : List (Addr × Obj)} (h : Tab line col qual ps rest) (hs : ∀ p ∈ rest, p ∈ rest') : Tab line col qual ps rest' := by
  rcases h with h | ⟨c', oc, vs, t, h1, h2, h3⟩
  · exact .inl h
  · exact .inr ⟨c', oc, vs, t, h1, hs _ h2, h3⟩
section
variable {M : Model} {A : Around} {E : Value → Shared → Prop} {s : Shared} {h₀ : Heap} {L a c P : Addr} {m mg mb : Str → Option Value} {cn : Str} {cs : Scope} {ccd : Value} {cl : List (Str × Addr)}
  {p : Program} {loose : List Str} {mean : ExcName → Option Value} {name qual : Str} {params : Arguments} {body : Expr} {scope : Scope} {ps : Array Value} {pos : Pos} {firstLine : Nat} {clos : List (Str × Addr)}
theorem kla_any {Q : Value → Shared → Prop} (hot rest : List (Addr × Obj)) (F : Fr h₀ L s.heap m) (N : News h₀ L s.heap ((P, tabObj ps) :: (hot ++ rest))) (T : Top p loose mean mg mb h₀) (C : CodeHd h₀ c P) (hcd : ccd = .ref c) (hsep : ∀ q ∈ hot ++ rest, q.1 ≠ P) (TB : Tab pos.line pos.col qual ps rest)
    (hcl : closureFor scope (envX cn cs L a ccd cl) = pure clos)
    (h : ∀ (f c' : Nat) (oc : Obj) (vs : Array Value) (t : Tok) (ctv : Value) (h' : Heap) (tk : Tok) (ps' : Array Value) (rest' : List (Addr × Obj)), Fr h₀ L h' m →
      News h₀ L h' ((f, kla_obj name qual params body scope clos ((mg "__name__").getD .none) c' ctv) :: (P, tabObj ps') :: (hot ++ rest')) →
      (c', oc) ∈ rest' → oc.data = .fields vs → vs[1]? = some (.str qual t) → Tab pos.line pos.col qual ps' rest' → (∀ q ∈ rest, q ∈ rest') → (∀ q ∈ rest', q ∈ rest ∨ ((∀ r ∈ hot ++ rest, @LT.lt Nat _ r.1 q.1) ∧ @LT.lt Nat _ P q.1)) →
      (∀ q ∈ hot ++ rest', @LT.lt Nat _ q.1 f) → @LT.lt Nat _ P f → Q (.ref f) { s with heap := h', toks := tk }) :
    wpAny M A (makeFunction name qual params (.expr body) scope (envX cn cs L a ccd cl) [] [] [] pos firstLine) Q E s := by
  rcases TB with rfl | ⟨c', oc, vs, t, rfl, hm, hd, hv⟩
  · refine kla_nest F N T C hcd (UpdF.head hsep) (by simp [TriplesOk]) (by simp [codeAmong]) hcl ?_
    intro f c' oc vs t ctv h' tk F' N' hd hv l1 l2
    have l3 : ∀ q ∈ hot ++ rest, @LT.lt Nat _ q.1 c' := fun q hq => l1 q (.tail _ hq)
    have l4 : @LT.lt Nat _ P c' := l1 _ (.head _)
    have l5 : @LT.lt Nat _ c' f := l2
    refine h f c' oc vs t ctv h' tk _ ((c', oc) :: rest) F' ?_ (.head _) hd hv (.inr ⟨c', oc, vs, t, rfl, .head _, hd, hv⟩) (fun q hq => .tail _ hq) ?_ ?_ (Nat.lt_trans l4 l5)
    · intro q hq
      refine N' q ?_
      simp only [List.mem_cons, List.mem_append] at hq ⊢
      rcases hq with hq | hq | hq | hq | hq <;> simp [hq]
    · intro q hq
      rcases List.mem_cons.mp hq with rfl | hq
      · exact .inr ⟨l3, l4⟩
      · exact .inl hq
    · intro q hq
      rcases List.mem_append.mp hq with hq | hq
      · exact Nat.lt_trans (l3 q (List.mem_append_left _ hq)) l5
      · rcases List.mem_cons.mp hq with rfl | hq
        · exact l5
        · exact Nat.lt_trans (l3 q (List.mem_append_right _ hq)) l5
  · refine kla_hit (c' := c') F N T C hcd (.head _) (by simp [TriplesOk, rawInt]) (by simp [codeAmong, rawInt]) hcl ?_
    intro f ctv h' tk F' N' l1
    exact h f c' oc vs t ctv h' tk _ rest F' N' hm hd hv (.inr ⟨c', oc, vs, t, rfl, hm, hd, hv⟩) (fun q hq => hq) (fun q hq => .inl hq) (fun q hq => l1 q (.tail _ hq)) (l1 _ (.head _))
end
theorem abcLo {k : Nat} (h : k < 9) : PySem.Txt.item ("abcdefghi" : Str) (k : Nat) = chr (97 + k) := by
  have : ∀ i : Fin 9, PySem.Txt.item ("abcdefghi" : Str) (i.val : Nat) = chr (97 + i.val) := by decide +kernel
  exact this ⟨k, h⟩
theorem abcHy {k : Nat} (h : k % 2 = 0) (h9 : k < 9) : PySem.Txt.item ("BDFHJ" : Str) ((k : Int).fdiv 2) = chr (66 + k) := by
  have : ∀ i : Fin 5, PySem.Txt.item ("BDFHJ" : Str) ((i.val : Nat) : Int) = chr (66 + 2 * i.val) := by decide +kernel
  have e : (k : Int).fdiv 2 = ((k / 2 : Nat) : Int) := by rw [Int.fdiv_eq_ediv_of_nonneg _ (by omega)]; omega
  rw [e, this ⟨k / 2, by omega⟩]
  congr 1
  congr 2
  dsimp only
  omega
theorem news_front {g : Heap} {L : Addr} {h : Heap} (pre : List (Addr × Obj)) {x dx l : Addr} {H : Int} {t : Tok} {n ep : Nat} {rows : List Row} {rest : List (Addr × Obj)} (N : News g L h (pre ++ (tabL x dx l H t n ep rows ++ rest))) : News g L h (tabL x dx l H t n ep rows ++ (pre ++ rest)) := by
  intro p hp
  refine N p ?_
  simp only [List.mem_append] at hp ⊢
  rcases hp with hp | hp | hp <;> simp [hp]
theorem nm_lo {k : Nat} (h : k < 9) : Nm (97 + k) := by unfold Nm; omega
theorem nm_hy {k : Nat} (h : k < 9) : Nm (66 + k) := by unfold Nm; omega
theorem nm_up {k : Nat} (h : k < 9) : Nm (65 + k) := by unfold Nm; omega
theorem lo_lo {k : Nat} : lo (97 + k) = 97 + k := by unfold lo; rw [if_neg (by omega)]
theorem lo_up {k : Nat} (h : k < 9) : lo (65 + k) = 97 + k := by unfold lo; rw [if_pos (by omega)]; omega
theorem lo_hy {k : Nat} (h : k < 9) : lo (66 + k) = 98 + k := by unfold lo; rw [if_pos (by omega)]; omega
theorem up_lo {k : Nat} (_h : k < 9) : up (97 + k) = 65 + k := by unfold up; rw [if_neg (by omega)]; omega
theorem findR_app {c : Nat} {a b : List Row} : findR c (a ++ b) = (findR c a).or (findR c b) := by unfold findR; rw [List.find?_append]
theorem findR_mem {c : Nat} {rows : List Row} {r : Row} (h : findR c rows = some r) : r ∈ rows := List.mem_of_find?_eq_some h
noncomputable def growR (way : Nat) (rows : List Row) (c : Nat) : Int := match findR c rows with
  | some r => ((handS way r.v).length : Int) - (r.v.length : Int)
  | none => 0
/-- what the bounds of a text are -/
noncomputable def OkT (way : Nat) (v : Str) : Prop := OkV v ∧ v.length ≤ 1000 ∧ (handS way v).length ≤ 100000
theorem okT_hy (way : Nat) : OkT way ("-" : Str) := by
  refine ⟨?_, by decide, ?_⟩
  · intro p hp
    have : ("-" : Str).cps.size = 1 := by decide
    have e : p = 0 := by omega
    subst e; decide
  · match way with
    | 0 => decide
    | 1 => decide
    | 2 => decide
    | 3 => decide
    | n + 4 => exact (by decide : (handS 4 ("-" : Str)).length ≤ 100000)
theorem findR_congr {a b : Nat} (h : lo a = lo b) (rows : List Row) : findR a rows = findR b rows := by unfold findR; rw [h]
theorem findR_one {c : Nat} {r : Row} : findR c [r] = if lo r.c = lo c then some r else none := by
  unfold findR
  rw [List.find?_cons, List.find?_nil]
  by_cases h : lo r.c = lo c
  · simp [h]
  · have e : (lo r.c == lo c) = false := beq_eq_false_iff_ne.mpr h
    rw [e, if_neg h]
theorem findR_none_app {c : Nat} {rows : List Row} {r : Row} (h : findR c rows = none) (h2 : lo r.c ≠ lo c) : findR c (rows ++ [r]) = none := by rw [findR_app, h, findR_one, if_neg h2]; rfl
theorem findR_new {c : Nat} {rows : List Row} {r : Row} (h : findR c rows = none) (h2 : lo r.c = lo c) : findR c (rows ++ [r]) = some r := by rw [findR_app, h, findR_one, if_pos h2]; rfl
theorem findR_old {c : Nat} {rows more : List Row} {r : Row} (h : findR c rows = some r) : findR c (rows ++ more) = some r := by rw [findR_app, h]; rfl
theorem mem_app1 {P : Row → Prop} {rows : List Row} {r : Row} (h : ∀ q ∈ rows, P q) (h1 : P r) : ∀ q ∈ rows ++ [r], P q := by
  intro q hq
  rcases List.mem_append.mp hq with hq | hq
  · exact h q hq
  · rw [List.mem_singleton.mp hq]; exact h1
local macro_rules | `(tactic| walk_at "subscriptTail") => `(tactic| (k_here; (with_reducible show wpAny _ _ (subscriptTail _ _ (Value.str (PySem.Str.ofString "abcdefghi") _) (Value.int _ _)) _ _ _); (refine KXi.item (by kxi_len) (by kxi_fact) (by kxi_fact) (by decide) ?_); intro kxiE; rw [abcLo (by assumption)]; clear kxiE))
local macro_rules | `(tactic| walk_at "subscriptTail") => `(tactic| (k_here; (with_reducible show wpAny _ _ (subscriptTail _ _ (Value.str (PySem.Str.ofString "BDFHJ") _) (Value.int _ _)) _ _ _); (refine KXi.item (by kxi_len) (by kxi_fact) (by kxi_fact) (by decide) ?_); intro kxiE; rw [abcHy (by assumption) (by assumption)]; clear kxiE))
/- text Tk -/
theorem w_Tk : True := by
  w_top off
  exact trivial
structure TabOk (way x dx l : Nat) (rows : List Row) (rest : List (Addr × Obj)) : Prop where
  a : l < dx
  b : dx < x
  c : ∀ p ∈ rest, p.1 ≠ l
  hr : ∀ r ∈ rows, (r.a, tupO r) ∈ rest
  nm : ∀ r ∈ rows, Nm r.c
  ok : ∀ r ∈ rows, OkT way r.v
theorem TabOk.sep {way x dx l : Nat} {rows : List Row} {rest : List (Addr × Obj)} (h : TabOk way x dx l rows rest) : SepT x dx l rest := ⟨h.a, h.b, h.c⟩
theorem TabOk.pre {way x dx l : Nat} {rows : List Row} {rest : List (Addr × Obj)} (h : TabOk way x dx l rows rest) {pre : List (Addr × Obj)} (hp : ∀ p ∈ pre, p.1 ≠ l) : TabOk way x dx l rows (pre ++ rest) :=
  ⟨h.a, h.b, fun p hp' => (List.mem_append.mp hp').elim (hp p) (h.c p), fun r hr => List.mem_append_right _ (h.hr r hr), h.nm, h.ok⟩
theorem TabOk.more {way x dx l : Nat} {rows : List Row} {rest rest' : List (Addr × Obj)} (h : TabOk way x dx l rows rest) (hp : ∀ p ∈ rest', p.1 ≠ l) (hm : ∀ p ∈ rest, p ∈ rest') : TabOk way x dx l rows rest' :=
  ⟨h.a, h.b, hp, fun r hr => hm _ (h.hr r hr), h.nm, h.ok⟩
theorem TabOk.snoc {way x dx l : Nat} {rows : List Row} {rest : List (Addr × Obj)} (h : TabOk way x dx l rows rest) {R : Row} (h1 : l < R.a) (h2 : Nm R.c) (h3 : OkT way R.v) : TabOk way x dx l (rows ++ [R]) ((R.a, tupO R) :: rest) :=
  ⟨h.a, h.b, fun p hp => by
    rcases List.mem_cons.mp hp with rfl | hp
    · exact neN (show R.a ≠ l by exact Nat.ne_of_gt h1)
    · exact h.c p hp,
   fun r hr => (List.mem_append.mp hr).elim (fun z => .tail _ (h.hr r z)) fun z => by rw [List.mem_singleton.mp z]; exact .head _,
   mem_app1 h.nm h2, mem_app1 h.ok h3⟩
theorem TabOk.filter {way x dx l : Nat} {rows : List Row} {rest : List (Addr × Obj)} (h : TabOk way x dx l rows rest) (f : Row → Bool) : TabOk way x dx l (rows.filter f) rest :=
  ⟨h.a, h.b, h.c, fun r hr => h.hr r (List.mem_filter.mp hr |>.1), fun r hr => h.nm r (List.mem_filter.mp hr |>.1), fun r hr => h.ok r (List.mem_filter.mp hr |>.1)⟩
theorem kpre {g : Heap} {L : Addr} {h : Heap} {way x dx l : Nat} {H : Int} {t : Tok} {n ep : Nat} {rows : List Row} {pre rest : List (Addr × Obj)} (_N : News g L h (tabL x dx l H t n ep rows ++ (pre ++ rest))) (K : TabOk way x dx l rows rest) (hp : ∀ p ∈ pre, p.1 ≠ l) : TabOk way x dx l rows (pre ++ rest) := K.pre hp
section
variable (w : World) (x dx l : Nat) (H : Int) (t : Tok) (n ep : Nat) (rows : List Row) (rest : List (Addr × Obj)) (way c : Nat) (nt : Tok) (v : Str) (vt : Tok)
theorem addW (hn : Nm c) (hv : OkT way v) (hl : rows.length ≤ 100) (K : TabOk way x dx l rows rest) :
  Cx w 16 120 (tabL x dx l H t n ep rows ++ rest) (call (.ref 217) [.ref x, .str (chr c) nt, .str v vt]) (fun r n' => r = .none ∧ ∃ R ep', R.c = c ∧ R.v = v ∧ n' = tabL x dx l H t n ep' (rows ++ [R]) ++ ((R.a, tupO R) :: rest) ∧ TabOk way x dx l (rows ++ [R]) ((R.a, tupO R) :: rest) ∧ ∀ p ∈ rest, p.1 < R.a) :=
  (addhdr_ w x dx l H t n ep rows rest c nt v vt hn hv.1 hv.2.1 hl K.sep).post fun _ _ ⟨h1, D, vt', ep', h2, h3, h4⟩ => ⟨h1, ⟨D, c, nt, v, vt'⟩, ep', rfl, rfl, h2, K.snoc h4 hn hv, h3⟩
theorem setNW (hn : Nm c) (hv : OkT way v) (hf : findR c rows = none) (hl : rows.length ≤ 100) (K : TabOk way x dx l rows rest) :
  Cx w 16 120 (tabL x dx l H t n ep rows ++ rest) (call (.ref 210) [.ref x, .str (chr c) nt, .str v vt]) (fun r n' => r = .str v vt ∧ ∃ R ep', R.c = c ∧ R.v = v ∧ R.vt = vt ∧ n' = tabL x dx l H t n ep' (rows ++ [R]) ++ ((R.a, tupO R) :: rest) ∧ TabOk way x dx l (rows ++ [R]) ((R.a, tupO R) :: rest) ∧ ∀ p ∈ rest, p.1 < R.a) :=
  (setdef_none w x dx l H t n ep rows rest c nt v vt hn hv.1 hf K.hr K.nm hl K.sep).post fun _ _ ⟨h1, D, ep', h2, h3, h4⟩ => ⟨h1, ⟨D, c, nt, v, vt⟩, ep', rfl, rfl, rfl, h2, K.snoc h4 hn hv, h3⟩
theorem setSW (hn : Nm c) (hv : OkT way v) (r0 : Row) (hf : findR c rows = some r0) (hl : rows.length ≤ 100) (K : TabOk way x dx l rows rest) :
  Cx w 16 120 (tabL x dx l H t n ep rows ++ rest) (call (.ref 210) [.ref x, .str (chr c) nt, .str v vt]) (fun r n' => r = .str r0.v r0.vt ∧ n' = tabL x dx l H t n ep rows ++ rest) :=
  setdef_some w x dx l H t n ep rows rest c nt v vt hn hv.1 r0 hf K.hr K.nm hl K.sep
theorem setIW (hn : Nm c) (hv : OkT way v) (hl : rows.length ≤ 100) (K : TabOk way x dx l rows rest) :
  Cx w 16 120 (tabL x dx l H t n ep rows ++ rest) (call (.ref 133) [.ref x, .str (chr c) nt, .str v vt]) (fun r n' => r = .none ∧ ∃ R ep', R.c = c ∧ R.v = v ∧ R.vt = vt ∧ n' = tabL x dx l H t n ep' ((rows.filter fun r => lo r.c != lo c) ++ [R]) ++ ((R.a, tupO R) :: rest) ∧ TabOk way x dx l ((rows.filter fun r => lo r.c != lo c) ++ [R]) ((R.a, tupO R) :: rest) ∧ ∀ p ∈ rest, p.1 < R.a) :=
  (setitem_ w x dx l H t n ep rows rest c nt v vt hn hv.1 K.hr K.nm hl K.sep).post fun _ _ ⟨h1, D, ep', h2, h3, h4⟩ => ⟨h1, ⟨D, c, nt, v, vt⟩, ep', rfl, rfl, rfl, h2, (K.filter _).snoc h4 hn hv, h3⟩
theorem delW (hn : Nm c) (hl : rows.length ≤ 100) (K : TabOk way x dx l rows rest) :
  Cx w 10 80 (tabL x dx l H t n ep rows ++ rest) (call (.ref 138) [.ref x, .str (chr c) nt]) (fun r n' => r = .none ∧ ∃ ep', n' = tabL x dx l H t n ep' (rows.filter fun r => lo r.c != lo c) ++ rest) :=
  del_ w x dx l H t n ep rows rest c nt hn K.hr K.nm hl K.sep
end
section
variable {g : Heap} {L : Addr} {h : Heap} {T f P ro c2 c1 R2 R1 : Addr × Obj} {tb rest : List (Addr × Obj)}
theorem ordO (N : News g L h (tb ++ (R2 :: ([T] ++ (R1 :: ([c2, c1, P, ro] ++ rest)))))) : News g L h (T :: (tb ++ R2 :: R1 :: ([c2, c1, P, ro] ++ rest))) :=
  nc (nm (nr N) (.tail _ (.head _))) (na (nl N) (nc (nm (nr N) (.head _)) (nc (nm (nr N) (.tail _ (.tail _ (.head _)))) fun p hp => nr N p (.tail _ (.tail _ (.tail _ (hp)))))))
end
theorem led {g : Heap} {L : Addr} {h : Heap} {nl : List (Addr × Obj)} (_N : News g L h nl) : ∃ nl', nl' = nl := ⟨_, rfl⟩
noncomputable abbrev qualL : Str := (("_law_laid" : Str) ++ ".<locals>.") ++ "<lambda>"
noncomputable def TabR (right : Bool) (ps : Array Value) (rest : List (Addr × Obj)) : Prop := Tab (if right = true then 272 else 274) (if right = true then 48 else 47) qualL ps rest
structure LaidOut (way x dx l ro : Nat) (right : Bool) (rows : List Row) (ps' : Array Value) (rest rest' : List (Addr × Obj)) : Prop where
  tab : TabOk way x dx l rows rest'
  so : ∀ p ∈ rest', p.1 ≠ ro
  s3 : ∀ p ∈ rest', p.1 ≠ 306
  sub : ∀ p ∈ rest, p ∈ rest'
  new : ∀ p ∈ rest', p ∈ rest ∨ ((∀ q ∈ rest, @LT.lt Nat _ q.1 p.1) ∧ @LT.lt Nat _ ro p.1)
  TB : TabR right ps' rest'
theorem tab_mem {x dx l : Nat} {o1 o2 o3 : Obj} {p : Addr × Obj} (h : p = (x, o1) ∨ p = (dx, o2) ∨ p = (l, o3)) : @Eq Nat p.1 x ∨ @Eq Nat p.1 dx ∨ @Eq Nat p.1 l := by
  rcases h with rfl | rfl | rfl
  · exact .inl rfl
  · exact .inr (.inl rfl)
  · exact .inr (.inr rfl)
theorem filt_one {rows : List Row} {R : Row} {c : Nat} (h : lo R.c = lo c) : (rows ++ [R]).filter (fun r => lo r.c != lo c) = rows.filter (fun r => lo r.c != lo c) := by
  rw [List.filter_append, List.filter_cons, if_neg (by simp [h]), List.filter_nil, List.append_nil]
theorem findR_filt {rows : List Row} {c : Nat} : findR c (rows.filter fun r => lo r.c != lo c) = none := by
  refine List.find?_eq_none.mpr fun r hr => ?_
  have := (List.mem_filter.mp hr).2
  simpa using this
noncomputable def insI (right : Bool) (g : Nat → Int) (row : List (Nat × Tok)) (c : Nat) : Nat :=
  if right then bis (fun j => decide (g c < g (row.getD j (0, 0)).1)) row.length 0 row.length else bis (fun j => decide (g c ≤ g (row.getD j (0, 0)).1)) row.length 0 row.length
noncomputable def CutMark : Prop := True
noncomputable def IfM (prog : Program) (w : World) (A : Around) (st : Stmt) (env : Env) (Q : Flow → Shared → Prop) (E : Value → Shared → Prop) (s : Shared) : Prop := wpAny (model prog w) A (exec st env) Q E s
theorem If_cut {prog : Program} {w : World} {A : Around} {st : Stmt} {env : Env} {Q : Flow → Shared → Prop} {E : Value → Shared → Prop} {s : Shared} (h : IfM prog w A st env Q E s) : wpAny (model prog w) A (exec st env) Q E s := h
noncomputable def StopS {α : Type} (prog : Program) (w : World) (A : Around) (t : Sem α) (Q : α → Shared → Prop) (E : Value → Shared → Prop) (s : Shared) : Prop := wpAny (model prog w) A t Q E s
theorem StopS.go {α : Type} {prog : Program} {w : World} {A : Around} {t : Sem α} {Q : α → Shared → Prop} {E : Value → Shared → Prop} {s : Shared} (h : wpAny (model prog w) A t Q E s) : StopS prog w A t Q E s := h
theorem stopSub {α : Type} {prog : Program} {w : World} {A : Around} {t : Sem α} {Q : α → Shared → Prop} {E : Value → Shared → Prop} {s : Shared} (h : StopS prog w A t Q E s) : wpAny (model prog w) A t Q E s := h
local macro_rules | `(tactic| walk_at "subscriptTail Name Slice ref ref") => `(tactic| (k_here; refine stopSub ?_))
local macro_rules | `(tactic| walk_at "exec If") => `(tactic| (k_here; (rename CutMark => cm); clear cm; refine If_cut ?_))
/- text Jo -/
theorem w_Jo : True := by
  w_top off
  exact trivial
theorem join0_aux : ∀ (rest : List Str) (acc : Array Nat), (rest.foldl (fun acc p => acc ++ ("" : Str).cps ++ p.cps) acc) = acc ++ (rest.flatMap (·.cps.toList)).toArray
  | [], acc => by simp
  | p :: rest, acc => by
    rw [List.foldl_cons, join0_aux rest]
    have e : ("" : Str).cps = #[] := rfl
    rw [e, List.flatMap_cons]
    apply Array.toList_inj.mp
    simp
theorem join0 (ss : List Str) : PySem.Txt.join ("" : Str) ss = ⟨(ss.flatMap (·.cps.toList)).toArray⟩ := by
  show Builtin.Str.glued ("" : Str) ss = _
  cases ss with
  | nil => rfl
  | cons x rest =>
    show (⟨rest.foldl (fun acc p => acc ++ ("" : Str).cps ++ p.cps) x.cps⟩ : Str) = _
    rw [join0_aux]
    congr 1
    apply Array.toList_inj.mp
    simp
theorem join0_chr (l : List Nat) : PySem.Txt.join ("" : Str) (l.map chr) = ⟨l.toArray⟩ := by
  rw [join0]
  congr 2
  induction l with
  | nil => rfl
  | cons a l ih => rw [List.map_cons, List.flatMap_cons, ih]; rfl
theorem comp_walkT {prog : Program} {w : World} {A : Around} {s : Shared} {env : Env} {h₀ : Heap} {m : Str → Option Value} {news src : List (Addr × Obj)} {E : Value → Shared → Prop} {Rs : Shared → Prop}
    {elt target iter : Expr} {ifs : List Expr} {scope : Scope} {pos py : Pos} {cl : List (Str × Addr)} {y : Str}
    {xv : Value} {n : Nat} {P : Nat → Value → Prop} (hh : A.handled = none) (F : Fr h₀ env.locals s.heap m) (N : News h₀ env.locals s.heap news) (S : Src prog w A h₀ src xv s n P) (hsrc : ∀ p ∈ src, p ∈ news)
    (hcell : ∀ y ∈ scope.names, y.2 ≠ .cell) (hkind : scope.kind = .function)
    (hy : env.kindOf y = some .local) (hp : (env.scope.kind == .class || (env.scope.kind == .module && env.locals != env.globals)) = false)
    (J : Nat → List Value → Prop) (hj : J 0 []) (hsz : n ≤ 16777216)
    (turn : ∀ i v ys I D C oI oC h tk, i < n → P i v → ys.length ≤ i → J i ys → COff news I D C → Fr h₀ env.locals h m → News h₀ env.locals h ((C, oC) :: (D, listOf ys.toArray ys.length) :: (I, oI) :: news) → (∃ mc, NsO oC mc) → ∀ Z, HidEq (CompEnd h₀ env.locals m I D C oI news (J (i + 1)) ys s) Z →
      wpAny (model prog w) A (assign target (compEnvC scope cl C env) v) (fun _ s₂ =>
        wpAny (model prog w) A (forIn ifs true fun c r => if r = true then do let ok ← isTrue c (compEnvC scope cl C env) (eval c (compEnvC scope cl C env)); pure (ForInStep.yield ok) else pure (ForInStep.yield r)) (fun ok s₃ =>
          if ok = true then wpAny (model prog w) A (eval elt (compEnvC scope cl C env)) (fun y => Hid Z (some y)) (fun _ _ => False) s₃
          else Hid Z none s₃) (fun _ _ => False) s₂) (fun _ _ => False) { s with heap := h, toks := tk })
    (done : ∀ ys D h tk, ys.length ≤ n → J n ys → (∀ p ∈ news, p.1 < D) → Fr h₀ env.locals h (fun z => if z = y then some (.ref D) else m z) → News h₀ env.locals h ((D, listOf ys.toArray ys.length) :: news) → Rs { s with heap := h, toks := tk }) :
    CompM prog w A env elt target iter ifs scope pos cl (some (assign (.Name y py) env)) (fun _ s' => Rs s') E xv s :=
  comp_walkS (Q := fun _ s' => Rs s') hh F N S hsrc hcell hkind hy hp J hj hsz turn done
/- text T14 -/
theorem w_T14 : True := by
  w_top off
  exact trivial
section
noncomputable def refs3o : List (Nat × List Nat) := [(38, [38, 97, 109, 112, 59]), (60, [38, 108, 116, 59]), (34, [38, 113, 117, 111, 116, 59]), (13, [38, 35, 120, 68, 59]), (10, [38, 35, 120, 65, 59]), (9, [38, 35, 120, 57, 59])]
theorem refs3_look (c : Nat) : refs3o.lookup c = refs3.lookup c := by
  unfold refs3o refs3
  by_cases h1 : c = 38
  · subst h1; rfl
  by_cases h2 : c = 60
  · subst h2; rfl
  by_cases h3 : c = 34
  · subst h3; rfl
  by_cases h4 : c = 13
  · subst h4; rfl
  by_cases h5 : c = 10
  · subst h5; rfl
  by_cases h6 : c = 9
  · subst h6; rfl
  simp only [List.lookup_cons, List.lookup_nil, beq_eq_false_iff_ne.mpr h1, beq_eq_false_iff_ne.mpr h2, beq_eq_false_iff_ne.mpr h3, beq_eq_false_iff_ne.mpr h4, beq_eq_false_iff_ne.mpr h5, beq_eq_false_iff_ne.mpr h6]
noncomputable def mkRefs : List (Nat × List Nat) → List Tok → List (Str × Value)
  | p :: l, t :: ts => (chr p.1, .str ⟨p.2.toArray⟩ t) :: mkRefs l ts
  | _, _ => []
noncomputable def RefsOk (way : Nat) (kvs : List (Str × Value)) : Prop := ∀ c, match (refsW way).lookup c with
  | some z => ∃ t, valueAt kvs (chr c) = some (.str ⟨z.toArray⟩ t)
  | none => valueAt kvs (chr c) = none
theorem valueAt_cons {k k' : Str} {v : Value} {r : List (Str × Value)} : valueAt ((k, v) :: r) k' = if k = k' then some v else valueAt r k' := by
  unfold valueAt
  rw [List.find?_cons]
  by_cases h : k = k' <;> simp [h]
theorem valueAt_mk (c : Nat) : ∀ (l : List (Nat × List Nat)) (ts : List Tok), ts.length = l.length → match l.lookup c with
    | some z => ∃ t, valueAt (mkRefs l ts) (chr c) = some (.str ⟨z.toArray⟩ t)
    | none => valueAt (mkRefs l ts) (chr c) = none
  | [], [], _ => rfl
  | (a, z) :: l, t :: ts, h => by
    have ih := valueAt_mk c l ts (by simpa using h)
    rw [List.lookup_cons, mkRefs, valueAt_cons]
    by_cases e : c = a
    · subst e
      simp
    · have e1 : (c == a) = false := beq_eq_false_iff_ne.mpr e
      have e2 : ¬ chr a = chr c := fun q => e (by simpa using q.symm)
      rw [e1, if_neg e2]
      exact ih
theorem RefsOk.of {way : Nat} {kvs : List (Str × Value)} (l : List (Nat × List Nat)) (ts : List Tok) (e : kvs = mkRefs l ts) (h : ts.length = l.length) (hl : ∀ c, l.lookup c = (refsW way).lookup c) : RefsOk way kvs := by
  intro c
  rw [e, ← hl c]
  exact valueAt_mk c l ts h
noncomputable def RefsD (w : World) (way : Nat) (D : Addr) (o : Obj) : Prop := (D == sysModules) = false ∧ ∃ kvs, o.IsDictOf (PySem.strKind PySem.Challenge.rw_uk0026_01.row.prog w) kvs ∧ RefsOk way kvs
noncomputable def StopRf (prog : Program) (w : World) (A : Around) (t : Sem Value) (Q E : Value → Shared → Prop) (s : Shared) : Prop := wpAny (model prog w) A t Q E s
theorem stopRf {prog : Program} {w : World} {A : Around} {t : Sem Value} {Q E : Value → Shared → Prop} {s : Shared} (h : StopRf prog w A t Q E s) : wpAny (model prog w) A t Q E s := h
local macro_rules | `(tactic| walk_at "subscriptTail Name Name ref int") => `(tactic| (k_here; refine stopRf ?_))
theorem genT {prog : Program} {w : World} {A : Around} {α : Type} {t : Sem α} {Q : α → Shared → Prop} {E : Value → Shared → Prop} {h : Heap} {g d o} {t1 t2 : Nat} (hh : ∀ t' : Nat, wpAny (model prog w) A t Q E ⟨h, g, d, t', o⟩) : wpAny (model prog w) A t Q E ⟨h, g, d, t1 + t2, o⟩ := hh _
local macro_rules | `(tactic| walk_at "evalPairs") => `(tactic| (k_here; (with_reducible refine genT ?_); intro tk9; dsimp only))
local macro_rules | `(tactic| walk_at "eval Dict") => `(tactic| (k_here; (with_reducible refine genT ?_); intro tk9))
noncomputable def OneRef (w : World) (VL : List Value) (news : List (Addr × Obj)) (g : Heap) (L : Addr) (h : Heap) (k : Nat) : Prop := ∃ D o, VL[k]? = some (.ref D) ∧ News g L h ((D, o) :: news) ∧ (∀ p ∈ news, p.1 < D) ∧ RefsD w k D o
theorem pickN {g : Heap} {L : Addr} {h : Heap} {D : Addr} {o : Obj} {l news : List (Addr × Obj)} (N : News g L h l) (hm : (D, o) ∈ l) (hs : ∀ p ∈ news, p ∈ l) : News g L h ((D, o) :: news) := fun p hp => N p ((List.mem_cons.mp hp).elim (fun e => e ▸ hm) (hs p))
theorem nameVL {g : Heap} {L : Addr} {h : Heap} {D : Addr} {vs : List Value} {n : Nat} {r : List (Addr × Obj)} (_N : News g L h ((D, listOf vs.toArray n) :: r)) : ∃ v', v' = vs := ⟨_, rfl⟩
theorem refs_ (w : World) (way : Nat) (hw : way < 5) (tw) (news) : Cx w 10 80 news (call (.ref 280) [.int (way : Nat) tw]) (fun r n' => ∃ D o, r = .ref D ∧ n' = (D, o) :: news ∧ (∀ p ∈ news, p.1 < D) ∧ RefsD w way D o) := by
  unfold Cx
  k_fill
  intro loose mean mg mb dp un gd cn cs a ccd cl outer A₀ base h₀ L m s Q E B F X N T hk hd hu hret
  obtain ⟨s1, s2, s3, s4, s5⟩ := s
  dsimp only at F N hret
  refine wpAny_call ?_
  k_dflt (refine' code_def ?k1 ?k2 ?k3 ?k4 ?k5 ?kA ?kF ?kK ?k6 ?k7 ?k8 ?k9 ?kB ?_ ?c2 ?c3 ?c4 ?c5; (case kA => exact rfl); (case kF => exact rfl); (case kK => assumption); (case k1 => k_asm); (case k2 => k_asm); (case k3 => k_asm); (case k4 => k_asm); (case k5 => k_asm); (case k6 => k_is); (case k7 => k_is); (case k8 => ktr_room); (case k9 => first | exact BindsTo.of_eq rfl | exact binds_K (by k_in) rfl (by k_is) rfl rfl rfl); (case c5 => decide); (case kB => exact locs rfl); (case c2 => exact rfl); (case c3 => exact rfl); (case c4 => exact rfl); k_whole; intro _ _ _ _ _ _ _ _ _; (try dsimp only))
  refine hideQ ?_
  intro QQ EE hQQ
  k_steps
  unfold StopRf
  rename News _ _ _ _ => kN
  obtain ⟨VL, hVL⟩ := nameVL kN
  have hL := News.isList kN (.head _)
  rw [← hVL] at hL
  have a0 : OneRef w VL news _ _ _ 0 := ⟨_, _, by rw [hVL]; rfl, pickN kN (.tail _ (.tail _ (.tail _ (.tail _ (.tail _ (.head _)))))) (fun p hp => .tail _ (.tail _ (.tail _ (.tail _ (.tail _ (.tail _ (hp))))))), (by assumption), by assumption, _, by assumption, RefsOk.of refs0 [_, _, _] rfl rfl (fun c => rfl)⟩
  have a1 : OneRef w VL news _ _ _ 1 := ⟨_, _, by rw [hVL]; rfl, pickN kN (.tail _ (.tail _ (.tail _ (.tail _ (.head _))))) (fun p hp => .tail _ (.tail _ (.tail _ (.tail _ (.tail _ (.tail _ (hp))))))), (allLt_all (by assumption : _ ∧ AllLt _ news).2), by assumption, _, by assumption, RefsOk.of refs1 [_, _, _, _] rfl rfl (fun c => rfl)⟩
  have a2 : OneRef w VL news _ _ _ 2 := ⟨_, _, by rw [hVL]; rfl, pickN kN (.tail _ (.tail _ (.tail _ (.head _)))) (fun p hp => .tail _ (.tail _ (.tail _ (.tail _ (.tail _ (.tail _ (hp))))))), (allLt_all (by assumption : _ ∧ _ ∧ AllLt _ news).2.2), by assumption, _, by assumption, RefsOk.of refs2 [_, _, _, _, _, _, _] rfl rfl (fun c => rfl)⟩
  have a3 : OneRef w VL news _ _ _ 3 := ⟨_, _, by rw [hVL]; rfl, pickN kN (.tail _ (.tail _ (.head _))) (fun p hp => .tail _ (.tail _ (.tail _ (.tail _ (.tail _ (.tail _ (hp))))))), (allLt_all (by assumption : _ ∧ _ ∧ _ ∧ AllLt _ news).2.2.2), by assumption, _, by assumption, RefsOk.of refs3o [_, _, _, _, _, _] rfl rfl (fun c => refs3_look c)⟩
  have a4 : OneRef w VL news _ _ _ 4 := ⟨_, _, by rw [hVL]; rfl, pickN kN (.tail _ (.head _)) (fun p hp => .tail _ (.tail _ (.tail _ (.tail _ (.tail _ (.tail _ (hp))))))), (allLt_all (by assumption : _ ∧ _ ∧ _ ∧ _ ∧ AllLt _ news).2.2.2.2), by assumption, _, by assumption, RefsOk.of refs4 [_, _, _] rfl rfl (fun c => rfl)⟩
  obtain ⟨D, o, hg, hN, hlt, hR⟩ : OneRef w VL news _ _ _ way := match way, hw with
    | 0, _ => a0
    | 1, _ => a1
    | 2, _ => a2
    | 3, _ => a3
    | 4, _ => a4
  clear a0 a1 a2 a3 a4 kN
  refine item_listL hL (by omega) (by omega) (by rw [Int.toNat_natCast]; exact hg) ?_
  k_steps
  rename News h₀ L _ _ => kN
  refine' hret _ _ _ _ ⟨_, _, rfl, rfl, hlt, hR⟩ (by k_asm) kN
end
/- text T15 -/
theorem w_T15 : True := by
  w_top off
  exact trivial
section
structure Two where
  a : Addr
  i : Nat
  j : Nat
  ti : Tok
  tj : Tok
  ep : Nat
noncomputable abbrev Two.listO (p : Two) : Obj := listOf [Value.int (p.i : Nat) p.ti, Value.int (p.j : Nat) p.tj].toArray p.ep
noncomputable abbrev Two.tupO (p : Two) : Obj := { cls := .type "tuple", data := .seq [Value.int (p.i : Nat) p.ti, Value.int (p.j : Nat) p.tj].toArray }
noncomputable abbrev twos (ps : List Two) : List Value := ps.map fun p => .ref p.a
noncomputable def leavesF (ps : List (Nat × Nat)) : Nat → Nat → Nat → Option (List (Nat × Nat))
  | 0, _, _ => none
  | n + 1, k, j => if k < 5 then some [(k, j)] else match ps[k - 5]? with
    | none => none
    | some q => match leavesF ps n q.1 (j + 1), leavesF ps n q.2 (j + 1) with
      | some x, some y => some (x ++ y)
      | _, _ => none
noncomputable def LeavesPost (news : List (Addr × Obj)) (L : List (Nat × Nat)) (r : Value) (n' : List (Addr × Obj)) : Prop :=
  ∃ D ep ls, r = .ref D ∧ (D, listOf (twos ls).toArray ep) ∈ n' ∧ (∀ l ∈ ls, (l.a, l.tupO) ∈ n') ∧ (∀ p ∈ news, p ∈ n') ∧ ls.map (fun l => (l.i, l.j)) = L
theorem leaves_one {news : List (Addr × Obj)} {D T : Addr} {k j : Nat} {kt jt : Tok} {ep : Nat} : LeavesPost news [(k, j)] (.ref D) ((D, listOf #[Value.ref T] ep) :: (T, { cls := .type "tuple", data := .seq #[Value.int (k : Nat) kt, Value.int (j : Nat) jt] }) :: news) :=
  ⟨D, ep, [⟨T, k, j, kt, jt, 0⟩], rfl, .head _, fun l hl => by rw [List.mem_singleton.mp hl]; exact .tail _ (.head _), fun p hp => .tail _ (.tail _ hp), rfl⟩
theorem leavesF_len (ps : List (Nat × Nat)) : ∀ (n k j : Nat) (L : List (Nat × Nat)), leavesF ps n k j = some L → L.length ≤ 2 ^ n
  | 0, _, _, _, h => by cases h
  | n + 1, k, j, L, h => by
    rw [leavesF] at h
    split at h
    · cases h; exact Nat.one_le_two_pow
    · split at h
      · cases h
      · split at h
        · rename_i x y hx hy
          cases h
          have h1 := leavesF_len ps n _ _ _ hx
          have h2 := leavesF_len ps n _ _ _ hy
          rw [List.length_append, Nat.pow_succ]
          omega
        · cases h
local macro_rules | `(tactic| walk_at "subscriptTail Name BinOp ref int") => `(tactic| (k_here; refine stopSub ?_))
local macro_rules | `(tactic| walk_at "binaryOp Add ref ref") => `(tactic| (k_here; refine stopSub ?_))
theorem leaves_ (w : World) (P : Addr) (ep : Nat) (ps : List Two) : ∀ (fuel k j : Nat) (tk tj : Tok) (news : List (Addr × Obj)) (L : List (Nat × Nat)), leavesF (ps.map fun p => (p.i, p.j)) fuel k j = some L → fuel ≤ 10 → ps.length ≤ 100 → (P, listOf (twos ps).toArray ep) ∈ news → (∀ p ∈ ps, (p.a, p.listO) ∈ news) →
    Cx w (10 + 10 * fuel) (50 + 80 * fuel) news (call (.ref 328) [.int (k : Nat) tk, .int (j : Nat) tj, .ref P]) (LeavesPost news L)
  | 0, k, j, tk, tj, news, L, h, _, _, _, _ => by cases h
  | fuel + 1, k, j, tk, tj, news, L, h, hfu, hpl, hP, hps => by
    have IH := leaves_ w P ep ps fuel
    unfold Cx
    k_fill
    intro loose mean mg mb dp un gd cn cs a ccd cl outer A₀ base h₀ L' m s Q E B F X N T hk hd hu hret
    refine wpAny_call ?_
    k_dflt (refine' code_def ?k1 ?k2 ?k3 ?k4 ?k5 ?kA ?kF ?kK ?k6 ?k7 ?k8 ?k9 ?kB ?_ ?c2 ?c3 ?c4 ?c5; (case kA => exact rfl); (case kF => exact rfl); (case kK => assumption); (case k1 => k_asm); (case k2 => k_asm); (case k3 => k_asm); (case k4 => k_asm); (case k5 => k_asm); (case k6 => k_is); (case k7 => k_is); (case k8 => ktr_room); (case k9 => first | exact BindsTo.of_eq rfl | exact binds_K (by k_in) rfl (by k_is) rfl rfl rfl); (case c5 => decide); (case kB => exact locs rfl); (case c2 => exact rfl); (case c3 => exact rfl); (case c4 => exact rfl); k_whole; intro _ _ _ _ _ _ _ _ _; (try dsimp only))
    refine hideQ ?_
    intro QQ EE hQQ
    k_steps
    · rename News h₀ L' _ _ => kN
      rename (k : Int) < 5 => hk5
      rw [leavesF, if_pos (by omega)] at h
      cases h
      exact hret _ _ _ _ leaves_one (by k_asm) kN
    · rename ¬ ((k : Int) < 5) => hk5
      rw [leavesF, if_neg (by omega), List.getElem?_map] at h
      cases hp : ps[k - 5]? with
      | none => rw [hp] at h; cases h
      | some p =>
        rw [hp] at h
        dsimp only [Option.map_some] at h
        split at h
        · rename_i x y hx hy
          cases h
          rw [show ((k : Int) - 5) = ((k - 5 : Nat) : Int) by omega]
          have hpm := hps p (List.mem_of_getElem? hp)
          refine StopS.go ?_
          refine item_listL (x := .ref p.a) (l := twos ps) (News.isList (by k_asm) (by k_mem)) (by omega) (by have := (List.getElem?_eq_some_iff.mp hp).1; omega) (by rw [List.getElem?_map, Int.toNat_natCast, hp]; rfl) ?_
          k_steps
          rw [show ((j : Int) + 1) = ((j + 1 : Nat) : Int) by omega]
          refine' Cx.use (IH p.i (j + 1) _ _ news x hx (by omega) hpl hP hps) (by k_asm) (by k_asm) (by k_asm) (by k_asm) (by k_asm) (by first | exact rfl | assumption) (by ktr_room) (by ktr_units) ?_
          rintro r9 n9 h9 tk9 ⟨D1, ep1, ls1, rfl, m1, ml1, sub1, e1⟩ F9 N9
          k_steps
          rw [show ((j : Int) + 1) = ((j + 1 : Nat) : Int) by omega]
          refine' Cx.use (IH p.j (j + 1) _ _ n9 y hy (by omega) hpl (sub1 _ hP) (fun q hq => sub1 _ (hps q hq))) (by k_asm) (by k_asm) (by k_asm) (by k_asm) (by k_asm) (by first | exact rfl | assumption) (by ktr_room) (by ktr_units) ?_
          rintro r9 n10 h10 tk10 ⟨D2, ep2, ls2, rfl, m2, ml2, sub2, e2⟩ F10 N10
          have m3 := sub2 _ m1
          k_steps
          have b1 := leavesF_len _ _ _ _ _ hx
          have b2 := leavesF_len _ _ _ _ _ hy
          have b3 : 2 ^ fuel ≤ 2 ^ 10 := Nat.pow_le_pow_right (by decide) (by omega)
          have c1 : ls1.length = x.length := by rw [← e1, List.length_map]
          have c2 : ls2.length = y.length := by rw [← e2, List.length_map]
          refine StopS.go ?_
          refine kmk_add_lit (zs := twos (ls1 ++ ls2)) (by k_asm) (by k_asm) (News.isList (by k_asm) (by k_mem)) (News.isList (by k_asm) (by k_mem)) (by simp) ?_ (by rw [sizeLine_eq]; simp only [List.length_map]; omega)
          intro D3 h11 F11 N11 l11
          k_steps
          rename News h₀ L' _ _ => kN
          refine hret _ _ _ _ ⟨D3, 0, ls1 ++ ls2, rfl, .head _, ?_, fun p hp => .tail _ (sub2 _ (sub1 _ hp)), ?_⟩ (by k_asm) kN
          · intro l hl
            rcases List.mem_append.mp hl with hl | hl
            · exact .tail _ (sub2 _ (ml1 l hl))
            · exact .tail _ (ml2 l hl)
          · rw [List.map_append, e1, e2]
        · cases h
end
/- text T16 -/
theorem w_T16 : True := by
  w_top off
  exact trivial
section
local macro_rules | `(tactic| walk_at "pad2") => `(tactic| skip)
noncomputable def CxL (w : World) (d u : Nat) (P : Addr) (xs : List Value) (news : List (Addr × Obj)) (t : Sem Value) (post : Value → List (Addr × Obj) → Prop) : Prop :=
  ∀ (loose : List Str) (mean : ExcName → Option Value) (mg mb : Str → Option Value) (dp un : Nat) (gd : Option (List Code)) (cn : Str) (cs : Scope) (a : Addr) (ccd : Value) (cl : List (Str × Addr)) (outer : List Env) (A₀ : Around) (base h₀ : Heap) (L : Addr) (m : Str → Option Value) (s : Shared) (Q E : Value → Shared → Prop),
   Below A₀ base outer h₀ → Fr h₀ L s.heap m → Frag.In (hd.heap_1 w.params) h₀ → News h₀ L s.heap news → Top topProg loose mean mg mb h₀ → h₀.IsList P xs.toArray → cs.kind = .function → dp + d < recursionLimit → un + u < cLine →
   (∀ r news' h' tk', post r news' → Fr h₀ L h' m → News h₀ L h' news' → Q r {s with heap := h', toks := tk'}) →
   wpAny (model PySem.Challenge.rw_uk0026_01.row.prog w) (ktrTop dp un gd cn cs L a ccd cl outer) t Q E s
theorem getInts : ∀ {vs : List Value} {xs : List Int}, IntsAre vs xs → ∀ {k : Nat}, k < vs.length → ∃ z t, vs[k]? = some (.int z t)
  | _, _, .nil, _, hk => absurd hk (Nat.not_lt_zero _)
  | _, _, .cons x t r, 0, _ => ⟨_, _, rfl⟩
  | _, _, .cons x t r, k + 1, hk => getInts r (Nat.lt_of_succ_lt_succ hk)
theorem setL_ok {v : Value} : ∀ {l : List Value} {k : Nat}, k < l.length → ki_setL l k v = some (l.set k v)
  | [], _, h => absurd h (Nat.not_lt_zero _)
  | _ :: _, 0, _ => rfl
  | _ :: r, k + 1, h => by rw [ki_setL, setL_ok (Nat.lt_of_succ_lt_succ h)]; rfl
theorem nameIt {news : List (Addr × Obj)} {D : Addr} (_h : ∀ p ∈ news, p.1 < D) : ∃ C, C = D := ⟨_, rfl⟩
theorem map1 {m : Str → Option Value} {x : Str} {a : Option Value} (hx : m x = a) : m = fun u => if u = x then a else m u := by
  funext u
  by_cases h : u = x
  · rw [if_pos h, h, hx]
  · rw [if_neg h]
theorem map1n {m : Str → Option Value} {x : Str} {a b : Option Value} : (fun u => if u = x then b else if u = x then a else m u) = fun u => if u = x then b else m u := by
  funext u
  by_cases h : u = x <;> simp [h]
theorem fm_nat (x : Int) : ∃ z : Nat, x.fmod 100000 = (z : Nat) ∧ z < 100000 := by
  rw [Int.fmod_eq_emod_of_nonneg _ (by decide)]
  exact ⟨(x % 100000).toNat, by omega, by omega⟩
theorem rg_size {a b : Int} {n : Nat} (h : b = a + n) : Builtin.Range.rangeSize a b 1 = (n : Nat) := by
  unfold Builtin.Range.rangeSize
  rw [if_pos (by decide)]
  split <;> omega
theorem rg_small {a b : Int} (ha : 0 ≤ a) (hb : 0 ≤ b) (h1 : a ≤ 100000) (h2 : b ≤ 100000) : Builtin.Range.small a b 1 = true := by
  have hs : 0 ≤ Builtin.Range.rangeSize a b 1 ∧ Builtin.Range.rangeSize a b 1 ≤ 100000 := by
    unfold Builtin.Range.rangeSize
    rw [if_pos (by decide)]
    split <;> omega
  have fit : ∀ x : Int, 0 ≤ x → x ≤ 100001 → Builtin.Range.rangeFitsLong x = true := by
    intro x h1 h2
    unfold Builtin.Range.rangeFitsLong
    simp only [Bool.and_eq_true, decide_eq_true_eq, Bool.not_eq_true', decide_eq_false_iff_not, Bool.or_eq_true]
    omega
  unfold Builtin.Range.small
  rw [fit a (by omega) (by omega), fit b (by omega) (by omega), fit 1 (by omega) (by omega), fit _ hs.1 (by omega), if_pos (by decide), fit _ (by omega) (by omega)]
  simp
noncomputable def Cell6 (us : List Value) : Prop := us.length = 6 ∧ ∀ j, j < 6 → ∃ (z : Nat) (t : Tok), us[j]? = some (.int (z : Nat) t) ∧ z < 100000
local macro_rules | `(tactic| walk_at "subscriptTail Name BinOp ref int") => `(tactic| (k_here; refine stopSub ?_))
local macro_rules | `(tactic| walk_at "setItem ref int") => `(tactic| (k_here; refine stopSub ?_))
theorem cells_ (w : World) (P : Addr) (vs : List Value) (xs : List Int) (news) (hI : IntsAre vs xs) (hl : vs.length ≤ 63) :
  CxL w 10 80 P vs news (call (.ref 273) [.ref P]) (fun r n' => ∃ D ep us, r = .ref D ∧ n' = (D, listOf us.toArray ep) :: news ∧ Cell6 us ∧ ∀ p ∈ news, p.1 < D) := by
  unfold CxL
  k_fill
  intro loose mean mg mb dp un gd cn cs a ccd cl outer A₀ base h₀ L m s Q E B F X N T hli hk hd hu hret
  have hxl : vs.length = xs.length := IntsAre.length hI
  have hI2 : ∀ {k : Nat}, k < vs.length → ∃ z t, vs[k]? = some (.int z t) := fun h => getInts hI h
  refine wpAny_call ?_
  k_dflt (refine' code_def ?k1 ?k2 ?k3 ?k4 ?k5 ?kA ?kF ?kK ?k6 ?k7 ?k8 ?k9 ?kB ?_ ?c2 ?c3 ?c4 ?c5; (case kA => exact rfl); (case kF => exact rfl); (case kK => assumption); (case k1 => k_asm); (case k2 => k_asm); (case k3 => k_asm); (case k4 => k_asm); (case k5 => k_asm); (case k6 => k_is); (case k7 => k_is); (case k8 => ktr_room); (case k9 => first | exact BindsTo.of_eq rfl | exact binds_K (by k_in) rfl (by k_is) rfl rfl rfl); (case c5 => decide); (case kB => exact locs rfl); (case c2 => exact rfl); (case c3 => exact rfl); (case c4 => exact rfl); k_whole; intro _ _ _ _ _ _ _ _ _; (try dsimp only))
  refine hideQ ?_
  intro QQ EE hQQ
  have hli2 := hli.at fun o e => Fr.keep (by assumption) _ _ e
  k_steps
  rename IsRange _ _ _ _ _ _ _ _ => hrg
  rename ∀ p ∈ news, p.1 < _ => lC
  obtain ⟨C, hC⟩ := nameIt lC
  subst hC
  refine for_walk (J₀ := fun m₀ i m₁ n₁ => ∃ us ep kv, Cell6 us ∧ n₁ = (C, listOf us.toArray ep) :: news ∧ m₁ = fun y => if y = ("k" : Str) then kv else m₀ y) rfl (by k_asm) (by k_asm) (src_range (n := xs.length) hrg ?hs1 ?hs2) ?hj (fun i m₁ n₁ _ p hp => nomatch hp) ?turn ?done
  case hs1 => exact rg_small (by omega) (by omega) (by omega) (by omega)
  case hs2 => exact rg_size (by omega)
  case hj =>
    refine ⟨_, _, _, ⟨rfl, ?_⟩, rfl, map1 rfl⟩
    intro j hj
    match j, hj with
    | 0, _ => exact ⟨32104, _, rfl, by decide⟩
    | 1, _ => exact ⟨42, _, rfl, by decide⟩
    | 2, _ => exact ⟨2153, _, rfl, by decide⟩
    | 3, _ => exact ⟨31, _, rfl, by decide⟩
    | 4, _ => exact ⟨562, _, rfl, by decide⟩
    | 5, _ => exact ⟨2, _, rfl, by decide⟩
  case turn =>
    rintro i v m₁ n₁ I oI h1 tk1 hi ⟨t, rfl⟩ ⟨us, ep, kv, hus, rfl, rfl⟩ hoff F1 N1 ZZ hZZ
    have hf6 : ((0 : Int) + (i : Nat)).fmod 6 = ((i % 6 : Nat) : Int) := by rw [Int.fmod_eq_emod_of_nonneg _ (by omega)]; omega
    obtain ⟨z, tz, hz, hzl⟩ := hus.2 (i % 6) (Nat.mod_lt _ (by decide))
    k_steps
    rw [hf6]
    refine StopS.go ?_
    refine item_listL (x := .int (z : Nat) tz) (l := us) (News.isList (by k_asm) (by k_mem)) (by omega) (by omega) (by rw [Int.toNat_natCast]; exact hz) ?_
    k_steps
    rw [hf6]
    have hC2 : C ≠ I := hoff _ (.head _)
    refine StopS.go ?_
    refine ki_set (its := us.toArray) (n := ep) (by k_asm) (by k_asm) (by omega) (by omega) (setL_ok (by rw [Int.toNat_natCast, hus.1]; exact Nat.mod_lt _ (by decide))) (Upd.tail (Ne.symm hC2) (Upd.head fun p hp => Nat.ne_of_lt (lC p hp))) ?_
    intro h2 F2 N2
    k_steps
    refine ⟨_, _, _, _, rfl, by k_asm, by k_asm, ?_, _, ep, _, ?_, rfl, map1n⟩
    · intro p hp
      rcases List.mem_cons.mp hp with rfl | hp
      · exact hC2
      · exact hoff p (.tail _ hp)
    · refine ⟨by rw [List.length_set]; exact hus.1, fun j hj => ?_⟩
      rw [List.getElem?_set, Int.toNat_natCast]
      by_cases hji : i % 6 = j
      · rw [if_pos hji, if_pos (by rw [hus.1]; omega)]
        obtain ⟨zz, e, hlt⟩ := fm_nat ((z : Int) + xs.getD ((0 : Int) + (i : Nat)).toNat 0)
        exact ⟨zz, _, congrArg (fun y => some (Value.int y _)) e, hlt⟩
      · rw [if_neg hji]
        exact hus.2 j hj
  case done =>
    rintro m₁ n₁ h1 tk1 ⟨us, ep, kv, hus, rfl, rfl⟩ F1 N1
    dsimp only
    k_steps
    rename News h₀ L _ _ => kN
    exact hret _ _ _ _ ⟨C, ep, us, rfl, rfl, hus, lC⟩ (by k_asm) kN
end
/- text T12 -/
theorem w_T12 : True := by
  w_top off
  exact trivial
section
inductive Half (k : Nat) (rows : List Row) (text : Str) : List Row → Value → Value → Prop
  | even (h : k % 2 = 0) (R1 R2 : Row) (ta tb : Tok) (h1 : R1.c = 66 + k) (h2 : R1.v = "-") (h3 : R2.c = 65 + k) (h4 : R2.v = text) : Half k rows text (rows ++ [R1] ++ [R2]) (.str text ta) (.str text tb)
  | odd (h : k % 2 = 1) (R2 : Row) (ta tb : Tok) (h1 : R2.c = 97 + k) (h2 : R2.v = text) : Half k rows text (rows.filter (fun r => lo r.c != lo (97 + k)) ++ [R2]) (.str "-" ta) (.str text tb)
inductive Par (k : Nat) (rows : List Row) (row : List (Nat × Tok)) : Prop
  | even (h : k % 2 = 0) (h1 : findR (97 + k) rows = none) (h2 : ∀ q ∈ row, Nm q.1 ∧ (findR q.1 rows).isSome)
  | odd (h : k % 2 = 1) (r0 : Row) (h1 : findR (97 + k) rows = some r0) (h3 : r0.v = "-") (h2 : ∀ q ∈ row, Nm q.1 ∧ (findR q.1 (rows.filter fun r => lo r.c != lo (97 + k))).isSome)
inductive Laid (x dx l ro : Nat) (H : Int) (t : Tok) (n : Nat) (rows : List Row) (rest : List (Addr × Obj)) (row : List (Nat × Tok)) (way k : Nat) (text : Str) (right : Bool) (r : Value) (n' : List (Addr × Obj)) : Prop
  | mk (rowsN : List Row) (D : Addr) (v1 v2 : Value) (ep' ep2' epT : Nat) (pt : Tok) (ps' : Array Value) (rest' : List (Addr × Obj)) (h1 : Half k rows text rowsN v1 v2) (h5 : r = .ref D) (h6 : n' = (D, listOf #[v1, v2, .none] epT) :: (306, tabObj ps') :: (ro, listOf ((insAt (insI right (growR way rowsN) row (97 + k)) row (97 + k, pt)).map nmV).toArray ep2') :: (tabL x dx l H t n ep' rowsN ++ rest')) (h7 : LaidOut way x dx l ro right rowsN ps' rest rest') : Laid x dx l ro H t n rows rest row way k text right r n'
inductive LaidMid (way x dx l ro k : Nat) (H : Int) (t : Tok) (n ep2 : Nat) (rows : List Row) (ps : Array Value) (rest : List (Addr × Obj)) (row : List (Nat × Tok)) (text : Str) (right : Bool) (g : Heap) (L : Addr) (m1 : Str → Option Value) (c1 c2 : Addr × Obj) (s : Shared) : Flow → Shared → Prop
  | mk (rowsN : List Row) (restN : List (Addr × Obj)) (T0 : Addr) (v1 v2 : Value) (ep' epT tk' : Nat) (h' : Heap) (hf : Half k rows text rowsN v1 v2) (hh : (findR (97 + k) rowsN).isSome) (hrow : ∀ q ∈ row, Nm q.1 ∧ (findR q.1 rowsN).isSome) (hlen : rowsN.length ≤ 30) (hT : @LT.lt Nat _ c1.1 T0) (hN : ∀ p ∈ restN, p.1 ≠ T0) (O : LaidOut way x dx l ro right rowsN ps rest restN)
    (F : Fr g L h' (fun y => if y = "told" then some (.ref T0) else m1 y)) (N : News g L h' ((T0, listOf #[v1, v2] epT) :: c1 :: c2 :: (306, tabObj ps) :: (ro, listOf (row.map nmV).toArray ep2) :: (tabL x dx l H t n ep' rowsN ++ restN))) : LaidMid way x dx l ro k H t n ep2 rows ps rest row text right g L m1 c1 c2 s .next ⟨h', s.gens, s.drawn, tk', s.os⟩
theorem laid_cut {M : Model} {A : Around} {E : Value → Shared → Prop} {s : Shared} {S : Sem Flow} {Q : Flow → Shared → Prop} {way x dx l ro k : Nat} {H : Int} {t : Tok} {n ep ep2 : Nat} {rows : List Row} {ps : Array Value} {rest : List (Addr × Obj)} {row : List (Nat × Tok)} {text : Str} {right : Bool} {g : Heap} {L : Addr} {m1 : Str → Option Value} {c1 c2 : Addr × Obj}
    (_F : Fr g L s.heap m1) (_N : News g L s.heap (c1 :: c2 :: (306, tabObj ps) :: (ro, listOf (row.map nmV).toArray ep2) :: (tabL x dx l H t n ep rows ++ rest)))
    (walk : ∀ Z E', HidEq (LaidMid way x dx l ro k H t n ep2 rows ps rest row text right g L m1 c1 c2 s) Z → wpAny M A S (Hid Z) E' s)
    (next : ∀ fl s', LaidMid way x dx l ro k H t n ep2 rows ps rest row text right g L m1 c1 c2 s fl s' → Q fl s') : wpAny M A S Q E s :=
  wpAny_mono (walk _ E ⟨fun _ _ h => h⟩) next fun _ _ e => e
section
variable {g : Heap} {L : Addr} {h : Heap} {T f P ro c2 c1 R2 R1 : Addr × Obj} {tb rest : List (Addr × Obj)}
theorem ordM (N : News g L h (T :: (tb ++ R2 :: R1 :: ([c2, c1, P, ro] ++ rest)))) : News g L h (T :: c2 :: c1 :: P :: ro :: (tb ++ (R2 :: R1 :: rest))) :=
  have M := nr (a := tb) fun p hp => N p (.tail _ hp)
  nc (nm N (.head _)) (nc (nm M (.tail _ (.tail _ (.head _)))) (nc (nm M (.tail _ (.tail _ (.tail _ (.head _))))) (nc (nm M (.tail _ (.tail _ (.tail _ (.tail _ (.head _)))))) (nc (nm M (.tail _ (.tail _ (.tail _ (.tail _ (.tail _ (.head _))))))) (na (nl fun p hp => N p (.tail _ hp)) (nc (nm M (.head _)) (nc (nm M (.tail _ (.head _))) fun p hp => M p (.tail _ (.tail _ (.tail _ (.tail _ (.tail _ (.tail _ (hp))))))))))))))
end
theorem LaidOut.two {way x dx l ro : Nat} {right : Bool} {rowsN : List Row} {ps : Array Value} {rest : List (Addr × Obj)} {R1 R2 : Row} (K : TabOk way x dx l rowsN ((R2.a, tupO R2) :: (R1.a, tupO R1) :: rest)) (hso : ∀ p ∈ rest, p.1 ≠ ro) (hs3 : ∀ p ∈ rest, p.1 ≠ 306)
    (f1 : @LT.lt Nat _ ro R1.a) (f2 : @LT.lt Nat _ ro R2.a) (h3 : 306 < ro) (g1 : ∀ q ∈ rest, @LT.lt Nat _ q.1 R1.a) (g2 : ∀ q ∈ rest, @LT.lt Nat _ q.1 R2.a) (TB : TabR right ps rest) : LaidOut way x dx l ro right rowsN ps rest ((R2.a, tupO R2) :: (R1.a, tupO R1) :: rest) := by
  refine ⟨K, ?_, ?_, fun p hp => .tail _ (.tail _ hp), ?_, Tab.mono TB fun p hp => .tail _ (.tail _ hp)⟩ <;> intro p hp <;> rcases List.mem_cons.mp hp with rfl | hp
  · exact Nat.ne_of_gt f2
  · rcases List.mem_cons.mp hp with rfl | hp
    · exact Nat.ne_of_gt f1
    · exact hso p hp
  · exact Nat.ne_of_gt (Nat.lt_trans h3 f2)
  · rcases List.mem_cons.mp hp with rfl | hp
    · exact Nat.ne_of_gt (Nat.lt_trans h3 f1)
    · exact hs3 p hp
  · exact .inr ⟨g2, f2⟩
  · rcases List.mem_cons.mp hp with rfl | hp
    · exact .inr ⟨g1, f1⟩
    · exact .inl hp
section
variable {x dx l ro T0 f P C1 C2 : Nat} {o1 o2 o3 o4 : Obj} {rest rest' tb : List (Addr × Obj)}
/-- what the code object's coming leaves apart -/
structure Apart (x dx l ro T0 P : Nat) (rest rest' : List (Addr × Obj)) : Prop where
  so : ∀ p ∈ rest', p.1 ≠ ro
  s3 : ∀ p ∈ rest', p.1 ≠ P
  sl : ∀ p ∈ rest', p.1 ≠ l
  sT : ∀ p ∈ rest', p.1 ≠ T0
  new : ∀ p ∈ rest', p ∈ rest ∨ ((∀ q ∈ rest, @LT.lt Nat _ q.1 p.1) ∧ @LT.lt Nat _ ro p.1)
theorem Apart.of {hot : List (Addr × Obj)} (hl : l < ro) (h3 : P < ro) (hT : ro < T0) (so : ∀ p ∈ rest, p.1 ≠ ro) (s3 : ∀ p ∈ rest, p.1 ≠ P) (sl : ∀ p ∈ rest, p.1 ≠ l) (sT : ∀ p ∈ rest, p.1 ≠ T0) {oT : Obj} (mT : (T0, oT) ∈ hot)
    (hnew : ∀ q ∈ rest', q ∈ rest ∨ ((∀ r ∈ hot ++ rest, @LT.lt Nat _ r.1 q.1) ∧ @LT.lt Nat _ P q.1)) : Apart x dx l ro T0 P rest rest' := by
  have hT' : ∀ p ∈ rest', p ∈ rest ∨ (T0 < p.1 ∧ ∀ q ∈ rest, @LT.lt Nat _ q.1 p.1) := fun p hp => (hnew p hp).imp id fun h => ⟨h.1 _ (List.mem_append_left _ mT), fun q hq => h.1 q (List.mem_append_right _ hq)⟩
  refine ⟨?_, ?_, ?_, ?_, ?_⟩ <;> intro p hp <;> rcases hT' p hp with hp | ⟨hp, hq⟩
  · exact so p hp
  · exact Nat.ne_of_gt (Nat.lt_trans hT hp)
  · exact s3 p hp
  · exact Nat.ne_of_gt (Nat.lt_trans h3 (Nat.lt_trans hT hp))
  · exact sl p hp
  · exact Nat.ne_of_gt (Nat.lt_trans hl (Nat.lt_trans hT hp))
  · exact sT p hp
  · exact Nat.ne_of_gt hp
  · exact .inl hp
  · exact .inr ⟨hq, Nat.lt_trans hT hp⟩
end
section
variable {g : Heap} {L : Addr} {h : Heap} {T f P ro c2 c1 : Addr × Obj} {tb rest : List (Addr × Obj)}
theorem ordLa (N : News g L h (T :: c2 :: c1 :: P :: ro :: (tb ++ rest))) : News g L h (P :: (([T, ro, c2, c1] ++ tb) ++ rest)) :=
  have M : News g L h (tb ++ rest) := fun p hp => N p (.tail _ (.tail _ (.tail _ (.tail _ (.tail _ (hp))))))
  nc (nm N (.tail _ (.tail _ (.tail _ (.head _))))) (na (na (nc (nm N (.head _)) (nc (nm N (.tail _ (.tail _ (.tail _ (.tail _ (.head _)))))) (nc (nm N (.tail _ (.head _))) (nm N (.tail _ (.tail _ (.head _))))))) (nl M)) (nr M))
theorem ordLb (N : News g L h (f :: P :: (([T, ro, c2, c1] ++ tb) ++ rest))) : News g L h (ro :: f :: P :: T :: c2 :: c1 :: (tb ++ rest)) :=
  have M : News g L h (([T, ro, c2, c1] ++ tb) ++ rest) := fun p hp => N p (.tail _ (.tail _ (hp)))
  have B := nl (nl M)
  nc (nm B (.tail _ (.head _))) (nc (nm N (.head _)) (nc (nm N (.tail _ (.head _))) (nc (nm B (.head _)) (nc (nm B (.tail _ (.tail _ (.head _)))) (nc (nm B (.tail _ (.tail _ (.tail _ (.head _))))) (na (nr (nl M)) (nr M)))))))
theorem ordLc (N : News g L h (ro :: f :: P :: T :: c2 :: c1 :: (tb ++ rest))) : News g L h (T :: P :: ro :: (tb ++ rest)) :=
  nc (nm N (.tail _ (.tail _ (.tail _ (.head _))))) (nc (nm N (.tail _ (.tail _ (.head _)))) (nc (nm N (.head _)) fun p hp => N p (.tail _ (.tail _ (.tail _ (.tail _ (.tail _ (.tail _ (hp)))))))))
end
local macro_rules | `(tactic| walk_at "call builtin:list.append") => `(tactic| (k_here; refine stopSub ?_))
local macro_rules | `(tactic| walk_at "call ref") => `(tactic| (k_here; refine stopSub ?_))
theorem laid (w : World) (x dx l ro : Nat) (H t n ep ep2 rows ps rest) (row : List (Nat × Tok)) (way k : Nat) (tw tk tt : Tok) (text : Str) (right : Bool) (hk9 : k < 9) (hw : way < 5)
  (K : TabOk way x dx l rows rest) (h3l : 306 < l) (hxo : x < ro) (hso : ∀ p ∈ rest, p.1 ≠ ro) (hs3 : ∀ p ∈ rest, p.1 ≠ 306)
  (hl : rows.length ≤ 20) (htx : OkT way text) (hc : Par k rows row) (TB : TabR right ps rest) (hrl : row.length ≤ 90) :
  Cx w 120 900 ((306, tabObj ps) :: (ro, listOf (row.map nmV).toArray ep2) :: (tabL x dx l H t n ep rows ++ rest)) (call (.ref 311) [.ref x, .ref ro, .int (way : Nat) tw, .int (k : Nat) tk, .str text tt, .bool right])
    (fun r n' => Laid x dx l ro H t n rows rest row way k text right r n') := by
  unfold Cx
  k_fill
  intro loose mean mg mb dp un gd cn cs a ccd cl outer A₀ base h₀ L m s Q E B F X N T hk hd hu hret
  obtain ⟨s1, s2, s3, s4, s5⟩ := s
  dsimp only at F N hret
  have q1 := K.a
  have q2 := K.b
  have q3 := K.c
  have n1 := nm_lo hk9
  have n2 := nm_hy hk9
  have n3 := nm_up hk9
  refine wpAny_call ?_
  k_dflt (refine' code_defC ?k1 ?k2 ?k3 ?k4 ?k5 ?kA ?kF ?kK ?k6 ?k7 ?k8 ?k9 ?kB ?kD ?_ ?c2 ?c3 ?c4; (case kA => exact rfl); (case kF => exact rfl); (case kK => assumption); (case k1 => k_asm); (case k2 => k_asm); (case k3 => k_asm); (case k4 => k_asm); (case k5 => k_asm); (case k6 => k_is); (case k7 => k_is); (case k8 => ktr_room); (case k9 => first | exact BindsTo.of_eq rfl | exact binds_K (by k_in) rfl (by k_is) rfl rfl rfl); (case kB => exact rfl); (case kD => decide +kernel); (case c2 => exact rfl); (case c3 => exact rfl); (case c4 => exact rfl); k_whole; intro _ _ _ _ _ _ _ N' Y' _ _ _ _; k_cells Y'; (try simp only [List.cons_append, List.nil_append] at N'); (try dsimp only))
  refine hideQ ?_
  intro QQ EE hQQ
  rename ∀ p ∈ ((306, tabObj ps) :: (ro, listOf (row.map nmV).toArray ep2) :: (tabL x dx l H t n ep rows ++ rest)), p.1 < _ => l1
  have c1 := ltN (l1 (ro, listOf (row.map nmV).toArray ep2) (.tail _ (.head _)))
  dsimp only at c1
  have cm : CutMark := trivial
  k_steps
  unfold IfM
  rename News _ _ _ (_ :: _ :: _) => nN
  rename Fr _ _ _ (fun y => if y = _ then _ else _) => nF
  refine laid_cut (k := k) (text := text) (right := right) (rows := rows) (row := row) (way := way) (x := x) (dx := dx) (l := l) (ro := ro) nF nN ?_ ?_
  · intro qm em hm
    rcases hc with ⟨hk0, hno, hrow⟩ | ⟨hk0, r0, hyes, hr0v, hrow⟩
    · refine wpAny_If ?_
      k_steps
      rename News _ _ _ (_ :: _ :: _) => nN
      have N1 := news_front (pre := [_, _, _, _]) nN
      have K1 := kpre N1 K (by
        intro p hp
        simp only [List.mem_cons, List.mem_append, List.not_mem_nil, or_false] at hp
        rcases hp with (rfl | rfl | rfl | rfl) <;> exact neN (by dsimp only; omega))
      refine StopS.go ?_
      refine' Cx.use (addW w x dx l H t n ep rows _ way (66 + k) _ "-" _ n2 (okT_hy way) (by omega) K1) (by k_asm) (by k_asm) (by k_asm) N1 (by k_asm) (by first | exact rfl | assumption) (by ktr_room) (by ktr_units) ?_
      rintro r9 n9 h9 tk9 ⟨rfl, R1, epA, e1, e2, rfl, K2, lt1⟩ F9 N9
      k_steps
      rw [up_lo hk9]
      have hf1 : findR (65 + k) (rows ++ [R1]) = none := findR_none_app (by rw [findR_congr (b := 97 + k) (by rw [lo_up hk9, lo_lo])]; exact hno) (by rw [e1, lo_hy hk9, lo_up hk9]; omega)
      refine StopS.go ?_
      refine' Cx.use (setNW w x dx l H t n epA _ _ way (65 + k) _ text tt n3 htx hf1 (by simp; omega) K2) (by k_asm) (by k_asm) (by k_asm) N9 (by k_asm) (by first | exact rfl | assumption) (by ktr_room) (by ktr_units) ?_
      rintro r9 n9 h10 tk10 ⟨rfl, R2, epB, e3, e4, e5, rfl, K3, lt2⟩ F10 N10
      k_steps
      have hf2 : findR (97 + k) (rows ++ [R1] ++ [R2]) = some R2 := findR_new (by rw [findR_congr (b := 65 + k) (by rw [lo_up hk9, lo_lo])]; exact hf1) (by rw [e3, lo_up hk9, lo_lo])
      refine StopS.go ?_
      refine' Cx.use (setSW w x dx l H t n epB _ _ way (97 + k) _ "-" _ n1 (okT_hy way) R2 hf2 (by simp; omega) K3) (by k_asm) (by k_asm) (by k_asm) N10 (by k_asm) (by first | exact rfl | assumption) (by ktr_room) (by ktr_units) ?_
      rintro r9 n9 h11 tk11 ⟨rfl, rfl⟩ F11 N11
      rw [e4, e5]
      have f1 : @LT.lt Nat _ ro R1.a := ltN (lt1 (ro, listOf (row.map nmV).toArray ep2) (by first | k_mem | (repeat (first | exact List.Mem.head _ | refine List.Mem.tail _ ?_ | refine List.mem_append_right _ ?_); done) | simp))
      have f2 : @LT.lt Nat _ R1.a R2.a := ltN (lt2 _ (.head _))
      k_steps
      rename News _ _ _ (_ :: _) => nN2
      rename ∀ p ∈ (tabL _ _ _ _ _ _ _ _ ++ _), p.1 < _ => lT
      have f3 := ltN (lT (R2.a, tupO R2) (List.mem_append_right _ (.head _)))
      dsimp only at f3
      have fT := ltN (lT _ (List.mem_append_right _ (.tail _ (.tail _ (.head _)))))
      dsimp only at fT
      refine' ⟨rows ++ [R1] ++ [R2], (R2.a, tupO R2) :: (R1.a, tupO R1) :: rest, _, _, _, _, _, _, _, .even hk0 R1 R2 _ _ e1 e2 e3 e4, by rw [hf2]; rfl, fun q hq => ⟨(hrow q hq).1, ?_⟩, by simp; omega, fT, ?_, ?_, by k_asm, ordM (tb := tabL x dx l H t n _ _) nN2⟩
      · obtain ⟨r0, hr0⟩ := Option.isSome_iff_exists.mp (hrow q hq).2
        rw [findR_old (findR_old hr0)]; rfl
      · intro p hp
        rcases List.mem_cons.mp hp with rfl | hp
        · exact Nat.ne_of_lt f3
        · rcases List.mem_cons.mp hp with rfl | hp
          · exact neN (by dsimp only; omega)
          · exact Nat.ne_of_lt (lT p (List.mem_append_right _ (.tail _ (.tail _ (.tail _ (.tail _ (.tail _ (.tail _ hp))))))))
      · exact LaidOut.two (R1 := R1) (R2 := R2) ((K.more q3 fun p hp => hp).snoc (R := R1) (show @LT.lt Nat _ l R1.a by omega) (e1 ▸ n2) (e2 ▸ okT_hy way) |>.snoc (R := R2) (show @LT.lt Nat _ l R2.a by omega) (e3 ▸ n3) (e4 ▸ htx)) hso hs3 f1 (Nat.lt_trans f1 f2) (by omega) (fun q hq => lt1 q (List.mem_append_right _ hq)) (fun q hq => lt2 q (.tail _ (List.mem_append_right _ hq))) TB
    · refine wpAny_If ?_
      k_steps
      rename News _ _ _ (_ :: _ :: _) => nN
      rw [up_lo hk9]
      have N1 := news_front (pre := [_, _, _, _]) nN
      have K1 := kpre N1 K (by
        intro p hp
        simp only [List.mem_cons, List.mem_append, List.not_mem_nil, or_false] at hp
        rcases hp with (rfl | rfl | rfl | rfl) <;> exact neN (by dsimp only; omega))
      refine StopS.go ?_
      refine' Cx.use (addW w x dx l H t n ep rows _ way (65 + k) _ text _ n3 htx (by omega) K1) (by k_asm) (by k_asm) (by k_asm) N1 (by k_asm) (by first | exact rfl | assumption) (by ktr_room) (by ktr_units) ?_
      rintro r9 n9 h9 tk9 ⟨rfl, R1, epA, e1, e2, rfl, K2, lt1⟩ F9 N9
      k_steps
      have hf1 : findR (97 + k) (rows ++ [R1]) = some r0 := findR_old hyes
      refine StopS.go ?_
      refine' Cx.use (setSW w x dx l H t n epA _ _ way (97 + k) _ text tt n1 htx r0 hf1 (by simp; omega) K2) (by k_asm) (by k_asm) (by k_asm) N9 (by k_asm) (by first | exact rfl | assumption) (by ktr_room) (by ktr_units) ?_
      rintro r9 n9 h10 tk10 ⟨rfl, rfl⟩ F10 N10
      have f1 : @LT.lt Nat _ ro R1.a := ltN (lt1 (ro, listOf (row.map nmV).toArray ep2) (by first | k_mem | (repeat (first | exact List.Mem.head _ | refine List.Mem.tail _ ?_ | refine List.mem_append_right _ ?_); done) | simp))
      rw [hr0v]
      k_steps
      rename News _ _ _ (_ :: _) => nN3
      rename ∀ p ∈ (tabL _ _ _ _ _ _ _ _ ++ _), p.1 < _ => lT
      have f2 := ltN (lT (R1.a, tupO R1) (List.mem_append_right _ (.head _)))
      dsimp only at f2
      have N3 := news_front (pre := [_]) nN3
      have K3 := kpre N3 K2 (by
        intro p hp
        rw [List.mem_singleton.mp hp]
        exact neN (by dsimp only; omega))
      refine StopS.go ?_
      refine' Cx.use (setIW w x dx l H t n epA _ _ way (97 + k) _ text tt n1 htx (by simp; omega) K3) (by k_asm) (by k_asm) (by k_asm) N3 (by k_asm) (by first | exact rfl | assumption) (by ktr_room) (by ktr_units) ?_
      rintro r9 n9 h11 tk11 ⟨rfl, R2, epB, e3, e4, e5, rfl, K4, lt2⟩ F11 N11
      have f3 := ltN (lt2 _ (.head _))
      dsimp only at f3
      rw [filt_one (by rw [e1, lo_up hk9, lo_lo])] at N11 K4
      have N12 := ordO (tb := tabL x dx l H t n _ _) N11
      clear N11
      have hfb : findR (97 + k) (rows.filter (fun r => lo r.c != lo (97 + k)) ++ [R2]) = some R2 := findR_new findR_filt (by rw [e3])
      have hfu : findR (65 + k) (rows.filter (fun r => lo r.c != lo (97 + k)) ++ [R2]) = some R2 := by rw [findR_congr (b := 97 + k) (by rw [lo_up hk9, lo_lo])]; exact hfb
      have hf2 := hfb
      k_steps
      rw [up_lo hk9]
      refine StopS.go ?_
      refine' Cx.use (getM w x dx l H t n epB (rows.filter (fun r => lo r.c != lo (97 + k)) ++ [R2]) _ (65 + k) _ n3 ?m1 ?m2 ?m3 ?hr K4.nm ?hl) (by k_asm) (by k_asm) (by k_asm) N12 (by k_asm) (by first | exact rfl | assumption) (by ktr_room) (by ktr_units) ?_
      case m1 => first | k_mem | (repeat (first | exact List.Mem.head _ | refine List.Mem.tail _ ?_ | refine List.mem_append_right _ ?_); done) | simp
      case m2 => first | k_mem | (repeat (first | exact List.Mem.head _ | refine List.Mem.tail _ ?_ | refine List.mem_append_right _ ?_); done) | simp
      case m3 => first | k_mem | (repeat (first | exact List.Mem.head _ | refine List.Mem.tail _ ?_ | refine List.mem_append_right _ ?_); done) | simp
      case hl =>
        have := List.length_filter_le (fun r : Row => lo r.c != lo (97 + k)) rows
        simp only [List.length_append, List.length_cons, List.length_nil]
        omega
      case hr =>
        intro r hr
        rcases List.mem_append.mp hr with hr | hr
        · exact .tail _ (List.mem_append_right _ (.tail _ (.tail _ (List.mem_append_right _ (K.hr r (List.mem_filter.mp hr).1)))))
        · rw [List.mem_singleton.mp hr]; exact .tail _ (List.mem_append_right _ (.head _))
      rintro r9 n9 h12 tk12 ⟨rfl, rfl⟩ F12 N13
      rw [hfu]
      dsimp only [valR]
      rw [e4, e5]
      k_steps
      refine StopS.go ?_
      refine append_K (by k_asm) N13 (Upd.head ?hT1) ?_ (by simp [sizeLine_eq])
      case hT1 =>
        intro p hp
        rcases List.mem_append.mp hp with hp | hp
        · simp only [List.mem_cons, List.not_mem_nil, or_false] at hp
          obtain e | e | e := tab_mem hp
          · have := ltN (lT _ (List.mem_append_left _ (.head _))); exact neN (by dsimp only at this; omega)
          · have := ltN (lT _ (List.mem_append_left _ (.head _))); exact neN (by dsimp only at this; omega)
          · have := ltN (lT _ (List.mem_append_left _ (.head _))); exact neN (by dsimp only at this; omega)
        · rcases List.mem_cons.mp hp with rfl | hp
          · exact neN (by dsimp only; omega)
          · exact Nat.ne_of_lt (lT p (List.mem_append_right _ hp))
      intro h13 F13 N14
      have f4 := ltN (lT (306, tabObj ps) (by first | k_mem | (repeat (first | exact List.Mem.head _ | refine List.Mem.tail _ ?_ | refine List.mem_append_right _ ?_); done) | simp))
      have f5 := ltN (lT (ro, listOf (row.map nmV).toArray ep2) (by first | k_mem | (repeat (first | exact List.Mem.head _ | refine List.Mem.tail _ ?_ | refine List.mem_append_right _ ?_); done) | simp))
      dsimp only at f4 f5
      k_steps
      have fT := ltN (lT _ (List.mem_append_right _ (.tail _ (.head _))))
      dsimp only at fT
      refine' ⟨rows.filter (fun r => lo r.c != lo (97 + k)) ++ [R2], (R2.a, tupO R2) :: (R1.a, tupO R1) :: rest, _, _, _, _, _, _, _, .odd hk0 R2 _ _ e3 e4, by rw [hf2]; rfl, fun q hq => ⟨(hrow q hq).1, ?_⟩, ?_, fT, ?_, ?_, by k_asm, ordM (tb := tabL x dx l H t n _ _) N14⟩
      · obtain ⟨r0, hr0⟩ := Option.isSome_iff_exists.mp (hrow q hq).2
        rw [findR_old hr0]; rfl
      · have := List.length_filter_le (fun r : Row => lo r.c != lo (97 + k)) rows
        simp only [List.length_append, List.length_cons, List.length_nil]
        omega
      · intro p hp
        rcases List.mem_cons.mp hp with rfl | hp
        · exact neN (by dsimp only; omega)
        · rcases List.mem_cons.mp hp with rfl | hp
          · exact Nat.ne_of_lt f2
          · exact Nat.ne_of_lt (lT p (List.mem_append_right _ (.tail _ (.tail _ (.tail _ (.tail _ (.tail _ hp)))))))
      · exact LaidOut.two (R1 := R1) (R2 := R2) (((K.filter (fun r => lo r.c != lo (97 + k))).more (rest' := (R1.a, tupO R1) :: rest) (fun p hp => by
          rcases List.mem_cons.mp hp with rfl | hp
          · exact neN (by dsimp only; omega)
          · exact q3 p hp) (fun p hp => .tail _ hp)).snoc (R := R2) (show @LT.lt Nat _ l R2.a by omega) (e3 ▸ n1) (e4 ▸ htx)) hso hs3 f1 (show @LT.lt Nat _ ro R2.a by omega) (by omega) (fun q hq => lt1 q (List.mem_append_right _ hq)) (fun q hq => lt2 q (.tail _ (.tail _ (List.mem_append_right _ hq)))) TB
  · rintro _ _ ⟨rowsN, restN, T0, v1, v2, ep', epT, tk', h', hf, hh, hrow, hlen, hT, hN, O, F2, N2⟩
    dsimp only at hT ⊢
    clear nF nN hc
    k_steps
    · refine kla_eval rfl ?_
      rename right = true => hright
      subst hright
      rename News _ _ _ (_ :: _) => nN2
      have N12 := ordLa (tb := tabL x dx l H t n _ _) nN2
      refine kla_any (P := 306) (c := 310) _ restN (by k_asm) N12 (by k_asm) (cd310 (by k_asm)) rfl ?_ O.TB rfl ?_
      · intro p hp
        simp only [List.mem_cons, List.mem_append, List.not_mem_nil, or_false] at hp
        rcases hp with ((rfl | rfl | rfl | rfl) | hp) | hp <;> first | exact neN (by dsimp only; omega) | exact O.s3 p hp | skip
        obtain e | e | e := tab_mem hp <;> exact neN (by omega)
      intro f c' oc vs t9 ctv h12 tk12 ps' rest' F12 N13 m13 hd13 hv13 TB' hsub hnew hlf h3f
      have A9 : Apart x dx l ro T0 306 restN rest' := Apart.of (by omega) (by omega) (by omega) O.so O.s3 O.tab.c hN (List.mem_append_left _ (.head _)) hnew
      have K9 := O.tab.more A9.sl hsub
      have N14 := ordLb N13
      obtain ⟨nl, hnl⟩ := led N14
      have hkey : ∀ (c : Nat) (u : Tok) (r0 : Row), Nm c → findR c rowsN = some r0 → Cx w 50 400 nl (call (.ref f) [.str (chr c) u]) (fun r n' => n' = nl ∧ ∃ t', r = .int (growR way rowsN c) t') := by
        subst hnl
        intro c u r0 hqn hr0
        have hok := K9.ok r0 (findR_mem hr0)
        clear B F X N T hk hd hu hret
        intro loose mean mg mb dp un gd cn cs a ccd cl outer A₀ base h₀ L m s Q E B F X N T hk hd hu hret
        obtain ⟨s1, s2, s3, s4, s5⟩ := s
        dsimp only at F N hret
        refine wpAny_call ?_
        k_dflt (refine' kla_code ?k1 ?k2 ?k3 ?k4 ?k5 ?kA ?kF ?kK ?k6 ?k7 ?k8 ?k9 ?kB ?_ ?c2 ?c3 ?c4 ?c5; (case kA => exact rfl); (case kF => exact rfl); (case kK => assumption); (case k1 => k_asm); (case k2 => k_asm); (case k3 => k_asm); (case k4 => k_asm); (case k5 => k_asm); (case k6 => k_mem); (case k7 => exact codeRec_news (by k_asm) (by k_mem) (by assumption) (by assumption)); (case k8 => ktr_room); (case k9 => exact rfl); (case c5 => decide); (case kB => exact locs rfl); (case c2 => exact rfl); (case c3 => exact rfl); (case c4 => exact rfl); k_whole; intro _ _ _ _ _ _ _ _ _; (try dsimp only))
        refine hideQ ?_
        intro QQ EE hQQ
        k_steps
        refine StopS.go ?_
        refine' Cx.use (growth_ w x dx l H t n ep' rowsN _ way _ c _ r0 hr0 hw ?x0 ?x1 hok.2.2 hqn ?m1 ?m2 ?m3 ?hr K9.nm (Nat.le_trans hlen (by decide))) (by k_asm) (by k_asm) (by k_asm) (by k_asm) (by k_asm) (by first | exact rfl | assumption) (by ktr_room) (by ktr_units) ?_
        case x0 => rw [Array.length_toList]; exact Nat.le_trans hok.2.1 (by decide)
        case x1 => exact Nat.le_trans hok.2.1 (by decide)
        case m1 => first | k_mem | (repeat (first | exact List.Mem.head _ | refine List.Mem.tail _ ?_ | refine List.mem_append_right _ ?_); done) | simp
        case m2 => first | k_mem | (repeat (first | exact List.Mem.head _ | refine List.Mem.tail _ ?_ | refine List.mem_append_right _ ?_); done) | simp
        case m3 => first | k_mem | (repeat (first | exact List.Mem.head _ | refine List.Mem.tail _ ?_ | refine List.mem_append_right _ ?_); done) | simp
        case hr => exact fun r hr => .tail _ (.tail _ (.tail _ (.tail _ (.tail _ (.tail _ (List.mem_append_right _ (K9.hr r hr)))))))
        rintro r9 n9 h9 tk9 ⟨rfl, t9, rfl⟩ F9 N9
        k_steps
        rename News h₀ L _ _ => kN
        refine' hret _ _ _ _ ⟨rfl, _, congrArg (Value.int · _) ?_⟩ (by k_asm) kN
        unfold growR
        rw [hr0]
      k_steps
      subst hnl
      refine StopS.go ?_
      refine' Cx.use (insR_ w ro row _ f _ (growR way rowsN) (97 + k, _) (by omega) _ _ _ _ (.head _) ?hsp ?hky) (by k_asm) (by k_asm) (by k_asm) (by k_asm) (by k_asm) (by first | exact rfl | assumption) (by ktr_room) (by ktr_units) ?_
      case hsp =>
        intro p hp
        have hrf := hlf (ro, listOf (row.map nmV).toArray ep2) (List.mem_append_left _ (.tail _ (.head _)))
        dsimp only at hrf
        simp only [List.mem_cons, List.mem_append, List.not_mem_nil, or_false] at hp
        rcases hp with rfl | rfl | rfl | rfl | rfl | hp | hp <;> first | exact neN (by dsimp only; omega) | exact A9.so p hp | skip
        obtain e | e | e := tab_mem hp <;> exact neN (by omega)
      case hky =>
        intro q hq
        rcases List.mem_cons.mp hq with rfl | hq
        · obtain ⟨r0, hr0⟩ := Option.isSome_iff_exists.mp hh
          exact hkey _ _ r0 n1 hr0
        · obtain ⟨hqn, hqs⟩ := hrow q hq
          obtain ⟨r0, hr0⟩ := Option.isSome_iff_exists.mp hqs
          exact hkey _ _ r0 hqn hr0
      rintro r9 n9 h13 tk13 ⟨rfl, epR, rfl⟩ F13 N15
      k_steps
      have N16 := ordLc (tb := tabL x dx l H t n ep' rowsN) N15
      refine StopS.go ?_
      refine append_K (by k_asm) N16 (Upd.head ?hT) ?_ (by simp [sizeLine_eq])
      case hT =>
        intro p hp
        simp only [List.mem_cons, List.mem_append, List.not_mem_nil, or_false] at hp
        rcases hp with rfl | rfl | hp | hp <;> first | exact neN (by dsimp only; omega) | exact A9.sT p hp | skip
        obtain e | e | e := tab_mem hp <;> exact neN (by omega)
      intro h14 F14 N17
      k_steps
      rename News h₀ L _ _ => kN
      refine' hret _ _ _ _ ⟨rowsN, _, v1, v2, _, _, _, _, ps', rest', hf, rfl, rfl, ⟨K9, A9.so, A9.s3, fun p hp => hsub p (O.sub p hp), fun p hp => ?_, TB'⟩⟩ (by k_asm) kN
      rcases A9.new p hp with hp | ⟨hp, hp2⟩
      · exact O.new p hp
      · exact .inr ⟨fun q hq => hp q (O.sub q hq), hp2⟩
    · refine kla_eval rfl ?_
      rename right = false => hright
      subst hright
      rename News _ _ _ (_ :: _) => nN2
      have N12 := ordLa (tb := tabL x dx l H t n _ _) nN2
      refine kla_any (P := 306) (c := 310) _ restN (by k_asm) N12 (by k_asm) (cd310 (by k_asm)) rfl ?_ O.TB rfl ?_
      · intro p hp
        simp only [List.mem_cons, List.mem_append, List.not_mem_nil, or_false] at hp
        rcases hp with ((rfl | rfl | rfl | rfl) | hp) | hp <;> first | exact neN (by dsimp only; omega) | exact O.s3 p hp | skip
        obtain e | e | e := tab_mem hp <;> exact neN (by omega)
      intro f c' oc vs t9 ctv h12 tk12 ps' rest' F12 N13 m13 hd13 hv13 TB' hsub hnew hlf h3f
      have A9 : Apart x dx l ro T0 306 restN rest' := Apart.of (by omega) (by omega) (by omega) O.so O.s3 O.tab.c hN (List.mem_append_left _ (.head _)) hnew
      have K9 := O.tab.more A9.sl hsub
      have N14 := ordLb N13
      obtain ⟨nl, hnl⟩ := led N14
      have hkey : ∀ (c : Nat) (u : Tok) (r0 : Row), Nm c → findR c rowsN = some r0 → Cx w 50 400 nl (call (.ref f) [.str (chr c) u]) (fun r n' => n' = nl ∧ ∃ t', r = .int (growR way rowsN c) t') := by
        subst hnl
        intro c u r0 hqn hr0
        have hok := K9.ok r0 (findR_mem hr0)
        clear B F X N T hk hd hu hret
        intro loose mean mg mb dp un gd cn cs a ccd cl outer A₀ base h₀ L m s Q E B F X N T hk hd hu hret
        obtain ⟨s1, s2, s3, s4, s5⟩ := s
        dsimp only at F N hret
        refine wpAny_call ?_
        k_dflt (refine' kla_code ?k1 ?k2 ?k3 ?k4 ?k5 ?kA ?kF ?kK ?k6 ?k7 ?k8 ?k9 ?kB ?_ ?c2 ?c3 ?c4 ?c5; (case kA => exact rfl); (case kF => exact rfl); (case kK => assumption); (case k1 => k_asm); (case k2 => k_asm); (case k3 => k_asm); (case k4 => k_asm); (case k5 => k_asm); (case k6 => k_mem); (case k7 => exact codeRec_news (by k_asm) (by k_mem) (by assumption) (by assumption)); (case k8 => ktr_room); (case k9 => exact rfl); (case c5 => decide); (case kB => exact locs rfl); (case c2 => exact rfl); (case c3 => exact rfl); (case c4 => exact rfl); k_whole; intro _ _ _ _ _ _ _ _ _; (try dsimp only))
        refine hideQ ?_
        intro QQ EE hQQ
        k_steps
        refine StopS.go ?_
        refine' Cx.use (growth_ w x dx l H t n ep' rowsN _ way _ c _ r0 hr0 hw ?x0 ?x1 hok.2.2 hqn ?m1 ?m2 ?m3 ?hr K9.nm (Nat.le_trans hlen (by decide))) (by k_asm) (by k_asm) (by k_asm) (by k_asm) (by k_asm) (by first | exact rfl | assumption) (by ktr_room) (by ktr_units) ?_
        case x0 => rw [Array.length_toList]; exact Nat.le_trans hok.2.1 (by decide)
        case x1 => exact Nat.le_trans hok.2.1 (by decide)
        case m1 => first | k_mem | (repeat (first | exact List.Mem.head _ | refine List.Mem.tail _ ?_ | refine List.mem_append_right _ ?_); done) | simp
        case m2 => first | k_mem | (repeat (first | exact List.Mem.head _ | refine List.Mem.tail _ ?_ | refine List.mem_append_right _ ?_); done) | simp
        case m3 => first | k_mem | (repeat (first | exact List.Mem.head _ | refine List.Mem.tail _ ?_ | refine List.mem_append_right _ ?_); done) | simp
        case hr => exact fun r hr => .tail _ (.tail _ (.tail _ (.tail _ (.tail _ (.tail _ (List.mem_append_right _ (K9.hr r hr)))))))
        rintro r9 n9 h9 tk9 ⟨rfl, t9, rfl⟩ F9 N9
        k_steps
        rename News h₀ L _ _ => kN
        refine' hret _ _ _ _ ⟨rfl, _, congrArg (Value.int · _) ?_⟩ (by k_asm) kN
        unfold growR
        rw [hr0]
      k_steps
      subst hnl
      refine StopS.go ?_
      refine' Cx.use (insL_ w ro row _ f _ (growR way rowsN) (97 + k, _) (by omega) _ _ _ _ (.head _) ?hsp ?hky) (by k_asm) (by k_asm) (by k_asm) (by k_asm) (by k_asm) (by first | exact rfl | assumption) (by ktr_room) (by ktr_units) ?_
      case hsp =>
        intro p hp
        have hrf := hlf (ro, listOf (row.map nmV).toArray ep2) (List.mem_append_left _ (.tail _ (.head _)))
        dsimp only at hrf
        simp only [List.mem_cons, List.mem_append, List.not_mem_nil, or_false] at hp
        rcases hp with rfl | rfl | rfl | rfl | rfl | hp | hp <;> first | exact neN (by dsimp only; omega) | exact A9.so p hp | skip
        obtain e | e | e := tab_mem hp <;> exact neN (by omega)
      case hky =>
        intro q hq
        rcases List.mem_cons.mp hq with rfl | hq
        · obtain ⟨r0, hr0⟩ := Option.isSome_iff_exists.mp hh
          exact hkey _ _ r0 n1 hr0
        · obtain ⟨hqn, hqs⟩ := hrow q hq
          obtain ⟨r0, hr0⟩ := Option.isSome_iff_exists.mp hqs
          exact hkey _ _ r0 hqn hr0
      rintro r9 n9 h13 tk13 ⟨rfl, epR, rfl⟩ F13 N15
      k_steps
      have N16 := ordLc (tb := tabL x dx l H t n ep' rowsN) N15
      refine StopS.go ?_
      refine append_K (by k_asm) N16 (Upd.head ?hT) ?_ (by simp [sizeLine_eq])
      case hT =>
        intro p hp
        simp only [List.mem_cons, List.mem_append, List.not_mem_nil, or_false] at hp
        rcases hp with rfl | rfl | hp | hp <;> first | exact neN (by dsimp only; omega) | exact A9.sT p hp | skip
        obtain e | e | e := tab_mem hp <;> exact neN (by omega)
      intro h14 F14 N17
      k_steps
      rename News h₀ L _ _ => kN
      refine' hret _ _ _ _ ⟨rowsN, _, v1, v2, _, _, _, _, ps', rest', hf, rfl, rfl, ⟨K9, A9.so, A9.s3, fun p hp => hsub p (O.sub p hp), fun p hp => ?_, TB'⟩⟩ (by k_asm) kN
      rcases A9.new p hp with hp | ⟨hp, hp2⟩
      · exact O.new p hp
      · exact .inr ⟨fun q hq => hp q (O.sub q hq), hp2⟩
end
/- text T17 -/
theorem w_T17 : True := by
  w_top off
  exact trivial
section
noncomputable def inR (way c : Nat) : Bool := ((refsW way).lookup c).isSome
theorem RefsOk.isSome {way : Nat} {kvs : List (Str × Value)} (h : RefsOk way kvs) (c : Nat) : (valueAt kvs (chr c)).isSome = inR way c := by
  have := h c
  unfold inR
  cases e : (refsW way).lookup c with
  | none => rw [e] at this; rw [this]; rfl
  | some z => rw [e] at this; obtain ⟨t, ht⟩ := this; rw [ht]; rfl
theorem strsAre_snoc : ∀ {vs : List Value} {ys : List Str} {y : Str} {t : Tok}, StrsAre vs ys → StrsAre (vs ++ [.str y t]) (ys ++ [y])
  | _, _, y, t, .nil => .cons y t .nil
  | _, _, _, _, .cons y t r => .cons y t (strsAre_snoc r)
noncomputable def crnl (way : Nat) : List Nat := [13, 10].filter (inR way)
theorem crnl_len (way : Nat) : (crnl way).length ≤ 2 := List.length_filter_le _ _
theorem fm10_nat (x : Int) : ∃ z : Nat, x.fmod 10 = (z : Nat) := by
  rw [Int.fmod_eq_emod_of_nonneg _ (by decide)]
  exact ⟨(x % 10).toNat, by omega⟩
theorem ints_snoc {ys : List Value} {nn i : Nat} {x : Int} {t : Tok} (h : ys.length ≤ i) (hi : i < nn) (hJ : ys.length ≤ nn ∧ ∀ y ∈ ys, ∃ (f : Nat) (t : Tok), y = .int (f : Nat) t) : (ys ++ [Value.int (x.fmod 10) t]).length ≤ nn ∧ ∀ y ∈ ys ++ [Value.int (x.fmod 10) t], ∃ (f : Nat) (t : Tok), y = .int (f : Nat) t := by
  refine ⟨by rw [List.length_append]; simp only [List.length_cons, List.length_nil]; omega, fun y hy => ?_⟩
  rcases List.mem_append.mp hy with hy | hy
  · exact hJ.2 y hy
  · rw [List.mem_singleton.mp hy]
    obtain ⟨f, e⟩ := fm10_nat x
    exact ⟨f, t, congrArg (Value.int · t) e⟩
noncomputable abbrev sgS (way : Nat) : Str := ("&<>\"\ta" : Str) ++ ⟨(crnl way).toArray⟩
noncomputable def sgnL (way : Nat) : List Nat := [38, 60, 62, 34, 9, 97] ++ crnl way
theorem sgS_list (way : Nat) : (sgS way).cps.toList = sgnL way := by
  show (("&<>\"\ta" : Str).cps ++ (crnl way).toArray).toList = _
  rw [Array.toList_append]
  rfl
theorem sgS_len (way : Nat) : (sgS way).length = 6 + (crnl way).length := by
  show (sgS way).cps.size = _
  rw [← Array.length_toList, sgS_list, sgnL, List.length_append]
  rfl
theorem item_sg {way : Nat} {i : Int} (h0 : 0 ≤ i) (h1 : i < ((sgS way).length : Nat)) : ∃ c ∈ sgnL way, PySem.Txt.item (sgS way) i = chr c := by
  refine ⟨(sgS way).cps.getD i.toNat 0, ?_, item_meets ⟨h0, h1⟩⟩
  rw [← sgS_list]
  have h2 : i.toNat < (sgS way).cps.size := by
    have : (sgS way).length = (sgS way).cps.size := rfl
    omega
  rw [Array.getD_eq_getD_getElem?, Array.getElem?_eq_getElem h2]
  exact Array.getElem_mem_toList h2
theorem strsAre_len : ∀ {vs : List Value} {ys : List Str}, StrsAre vs ys → vs.length = ys.length
  | _, _, .nil => rfl
  | _, _, .cons _ _ r => congrArg (· + 1) (strsAre_len r)
theorem sum_chr : ∀ cs : List Nat, ((cs.map chr).map (fun x : Str => x.length)).sum = cs.length
  | [] => rfl
  | c :: r => by
    rw [List.map_cons, List.map_cons, List.sum_cons, sum_chr r, List.length_cons]
    have : (chr c).length = 1 := rfl
    omega
theorem joinFits {cs : List Nat} (h : cs.length ≤ 1000) : ((cs.map chr).map (fun x : Str => x.length)).sum + (cs.map chr).length * ("" : Str).length ≤ 16777216 := by
  have : ("" : Str).length = 0 := rfl
  rw [sum_chr, this]
  omega
theorem nameLt {a b : Nat} {p : Prop} (_h : @LT.lt Nat _ a b ∧ p) : ∃ c : Nat, c = b := ⟨_, rfl⟩
section
variable {g : Heap} {L : Addr} {h : Heap} {S T D c3 c2 c1 : Addr × Obj} {news base : List (Addr × Obj)}
theorem ordT (N : News g L h (S :: T :: D :: c3 :: c2 :: c1 :: news)) : News g L h (T :: c3 :: (S :: D :: c2 :: c1 :: news)) := by
  repeat (refine nc (nm N (by repeat (first | exact .head _ | refine .tail _ ?_))) ?_)
  exact fun p hp => N p (by repeat (first | exact hp | refine .tail _ ?_))
theorem ordX {D3 D2 I : Addr × Obj} (N : News g L h (D3 :: D2 :: I :: T :: c3 :: base)) : News g L h (T :: I :: c3 :: base) := by
  repeat (refine nc (nm N (by repeat (first | exact .head _ | refine .tail _ ?_))) ?_)
  exact fun p hp => N p (by repeat (first | exact hp | refine .tail _ ?_))
theorem ordY {I : Addr × Obj} (N : News g L h (T :: I :: c3 :: base)) : News g L h (I :: T :: c3 :: base) := by
  repeat (refine nc (nm N (by repeat (first | exact .head _ | refine .tail _ ?_))) ?_)
  exact fun p hp => N p (by repeat (first | exact hp | refine .tail _ ?_))
theorem ledT (_N : News g L h (T :: c3 :: base)) : ∃ b, b = base := ⟨_, rfl⟩
end
/-- a text as the law writes it: at most four signs of the way's -/
noncomputable def Sig (way : Nat) (z : Str) : Prop := z.cps.toList.length ≤ 4 ∧ ∀ c ∈ z.cps.toList, c ∈ sgnL way
local macro_rules | `(tactic| walk_at "subscriptTail Name BinOp str int") => `(tactic| (k_here; refine stopSub ?_))
theorem texts_ (w : World) (C R : Addr) (us : List Value) (ep : Nat) (oR : Obj) (way : Nat) (hw : way < 5) (news) (hC : (C, listOf us.toArray ep) ∈ news) (hus : Cell6 us) (hR : (R, oR) ∈ news) (hRD : RefsD w way R oR) :
  Cx w 20 200 news (call (.ref 297) [.ref C, .ref R]) (fun r n' => ∃ D ep ts zs, r = .ref D ∧ (D, listOf ts.toArray ep) ∈ n' ∧ (∀ p ∈ news, p ∈ n') ∧ StrsAre ts zs ∧ zs.length = 5 ∧ (∀ z ∈ zs, Sig way z) ∧ ∀ p ∈ news, p.1 < D) := by
  unfold Cx
  k_fill
  intro loose mean mg mb dp un gd cn cs a ccd cl outer A₀ base h₀ L m s Q E B F X N T hk hd hu hret
  obtain ⟨s1, s2, s3, s4, s5⟩ := s
  dsimp only at F N hret
  refine wpAny_call ?_
  k_dflt (refine' code_defC ?k1 ?k2 ?k3 ?k4 ?k5 ?kA ?kF ?kK ?k6 ?k7 ?k8 ?k9 ?kB ?kD ?_ ?c2 ?c3 ?c4; (case kA => exact rfl); (case kF => exact rfl); (case kK => assumption); (case k1 => k_asm); (case k2 => k_asm); (case k3 => k_asm); (case k4 => k_asm); (case k5 => k_asm); (case k6 => k_is); (case k7 => k_is); (case k8 => ktr_room); (case k9 => first | exact BindsTo.of_eq rfl | exact binds_K (by k_in) rfl (by k_is) rfl rfl rfl); (case kB => exact rfl); (case kD => decide +kernel); (case c2 => exact rfl); (case c3 => exact rfl); (case c4 => exact rfl); k_whole; intro _ _ _ _ _ _ _ N' Y' _ _ _ _; k_cells Y'; (try simp only [List.cons_append, List.nil_append] at N'); (try dsimp only))
  refine hideQ ?_
  intro QQ EE hQQ
  rename ∀ p ∈ news, p.1 < _ => l1
  obtain ⟨LL, hLL⟩ := nameIt l1
  subst hLL
  have k1 : ∀ p ∈ news, p.1 ≠ _ + 1 := fun p hp => Nat.ne_of_lt (Nat.lt_succ_of_lt (l1 p hp))
  have k2 : ∀ p ∈ news, p.1 ≠ _ + 1 + 1 := fun p hp => Nat.ne_of_lt (Nat.lt_succ_of_lt (Nat.lt_succ_of_lt (l1 p hp)))
  have k3 : ∀ p ∈ news, p.1 ≠ _ + 1 + 1 + 1 := fun p hp => Nat.ne_of_lt (Nat.lt_succ_of_lt (Nat.lt_succ_of_lt (Nat.lt_succ_of_lt (l1 p hp))))
  k_steps
  obtain ⟨hlo, kvs, hkv, hro⟩ := hRD
  refine comp_walk0 rfl (by k_asm) (by k_asm) src_str (fun p hp => nomatch hp) (by decide) rfl (fun i ys => StrsAre ys ((((("\r\n" : Str).cps.toList).take i).filter (inR way)).map chr)) .nil (by decide) ?_ ?_
  · intro i v ys I D C' oI oC h1 tk1 hi hv hlen hJ off F1 N1 hns ZZ hZZ
    obtain ⟨mc, hns⟩ := hns
    obtain ⟨c, u, hc, rfl⟩ := hv
    have hc2 : ("\r\n" : Str).cps.toList[i]? = some c := by rw [Array.getElem?_toList]; exact hc
    k_steps
    refine kda_in (knd := PySem.strKind _ _) (by k_asm) (by k_mem) hkv hlo (strKind_is _ _ _ _) (inR way c) (hro.isSome c) ?_
    cases hin : inR way c
    · k_steps
      exact ⟨_, _, _, _, rfl, by k_asm, by k_asm, by k_asm, by rw [take_filter_succ hc2, hin]; simpa using hJ⟩
    · k_steps
      exact ⟨_, _, _, _, rfl, by k_asm, by k_asm, by k_asm, by rw [take_filter_succ hc2, hin]; simpa using strsAre_snoc hJ⟩
  · intro ys D h1 tk1 hlen hJ hD F1 N1
    have hJ2 : StrsAre ys ((crnl way).map chr) := hJ
    have d1 := ltN (hD _ (.head _))
    dsimp only at d1
    dsimp only
    k_steps
    have hcl := crnl_len way
    have hcs : (⟨(crnl way).toArray⟩ : Str).length ≤ 2 := by show (crnl way).toArray.size ≤ 2; simpa using hcl
    refine join_list (D := D) (items := ys.toArray) (News.isList (by k_asm) (by k_mem)) hJ2 ?_ ?_
    · exact joinFits (by omega)
    rw [join0_chr]
    intro t9 k9
    k_steps
    have hul : us.length = 6 := hus.1
    unfold StopS
    k_dflt (refine' kmk_slice_lit (its := List.toArray _) ?c1F ?c1N ?c1l ?c1p ?c1q ?c1e ?_ ?c1s ?c1t ?c1z; (case c1F => k_asm); (case c1N => k_asm); (case c1l => exact News.isList (by k_asm) (by k_mem)); (case c1p => kmk_part); (case c1q => kmk_part); (case c1e => first | exact congrArg Array.toList (slice_take _ 5) | exact congrArg Array.toList (slice_take _ 2)); (case c1s => with_unfolding_all rfl); (case c1t => kmk_pure); (case c1z => (rw [sizeLine_eq]; simp only [List.size_toArray, List.length_map, List.length_cons]; omega)))
    intro _ _ _ _ _
    try k_sweep
    k_steps
    rename News _ _ _ (_ :: _ :: _ :: _ :: _ :: _ :: _) => nN
    have N6 := ordT nN
    obtain ⟨base, hbase⟩ := ledT N6
    rename ∀ p ∈ (_ :: _ :: _ :: _ :: _ :: news), p.1 < _ => lS
    rename _ ∧ _ => lT
    obtain ⟨T, hT⟩ := nameLt lT
    subst hT
    obtain ⟨S, hS⟩ := nameIt lS
    subst hS
    rw [← hbase] at N6
    have t3 := lT.2.1
    have s3 := ltN (lS (LL + 1 + 1 + 1, _) (.tail _ (.tail _ (.head _))))
    refine for_walk (J₀ := fun m₀ i m₁ n₁ => ∃ (ts : List Value) (ep : Nat) (oc : Obj) (vc fv : Option Value) (zs : List Str), n₁ = (T, listOf ts.toArray ep) :: (LL + 1 + 1 + 1, oc) :: base ∧ oc.data = .cell vc ∧ StrsAre ts zs ∧ zs.length = i ∧ (∀ z ∈ zs, Sig way z) ∧ m₁ = fun y => if y = ("figures" : Str) then fv else m₀ y) rfl (by k_asm) N6 (src_list (l := S) (vs := us.take 5) (nn := 0) N6 (by rw [hbase]; exact .tail _ (.tail _ (.head _)))) ?hj5 ?hl5 ?turn5 ?done5
    case hj5 => exact ⟨[], 0, _, _, none, [], rfl, by k_asm, .nil, rfl, (fun _ h => nomatch h), map1 rfl⟩
    case hl5 =>
      rintro i m₁ n₁ ⟨ts, ep, oc, vc, fv, zs, rfl, _⟩ p hp
      rw [List.mem_singleton.mp hp, hbase]
      exact .tail _ (.tail _ (.head _))
    case turn5 =>
      rintro i v m₁ n₁ I oI h5 tk5 hi hv ⟨ts, ep, oc, vc, fv, zs, rfl, hoc, hts, hzl, hzs, rfl⟩ hoff F5 N5 ZZ hZZ
      subst hbase
      have i3 := neN (hoff (LL + 1 + 1 + 1, oc) (.tail _ (.head _)))
      have hi5 : i < 5 := by
        have : (us.take 5).length ≤ 5 := by rw [List.length_take]; omega
        omega
      obtain ⟨z, tz, hz, hzb⟩ := hus.2 i (by omega)
      obtain rfl : v = .int (z : Nat) tz := by
        rw [List.getElem?_take, if_pos hi5, hz] at hv
        exact (Option.some.inj hv).symm
      k_steps
      rename IsRange _ _ _ _ _ _ _ _ => hrg
      have hfm : (((z : Int)).fmod 10).fmod 5 = ((z % 10 % 5 : Nat) : Int) := by
        rw [Int.fmod_eq_emod_of_nonneg _ (by omega), Int.fmod_eq_emod_of_nonneg _ (by omega)]; omega
      rw [hfm] at hrg
      have hn4 : z % 10 % 5 ≤ 4 := by omega
      generalize z % 10 % 5 = nn at hrg hn4
      refine comp_walkT rfl (by k_asm) (by k_asm) (src_range (n := nn) hrg (rg_small (by omega) (by omega) (by omega) (by omega)) (rg_size (by omega))) (fun p hp => nomatch hp) (by decide) rfl rfl rfl (fun i ys => ys.length ≤ nn ∧ ∀ y ∈ ys, ∃ (f : Nat) (t : Tok), y = .int (f : Nat) t) ⟨Nat.zero_le _, fun y h => nomatch h⟩ (by omega) ?_ ?_
      · rintro i2 v2 ys2 I2 D2 C2 oI2 oC2 h6 tk6 hi2 ⟨t6, rfl⟩ hlen2 hJ2 off2 F6 N6 ⟨mc2, hns2⟩ ZZ hZZ
        have : i2 = 0 ∨ i2 = 1 ∨ i2 = 2 ∨ i2 = 3 := by omega
        rcases this with rfl | rfl | rfl | rfl
        · k_steps
          exact ⟨_, _, _, _, rfl, by k_asm, by k_asm, by k_asm, ints_snoc hlen2 hi2 hJ2⟩
        · k_steps
          exact ⟨_, _, _, _, rfl, by k_asm, by k_asm, by k_asm, ints_snoc hlen2 hi2 hJ2⟩
        · k_steps
          exact ⟨_, _, _, _, rfl, by k_asm, by k_asm, by k_asm, ints_snoc hlen2 hi2 hJ2⟩
        · k_steps
          exact ⟨_, _, _, _, rfl, by k_asm, by k_asm, by k_asm, ints_snoc hlen2 hi2 hJ2⟩
      · intro ys2 D2 h6 tk6 hlen2 hJ2 hD2 F6 N6
        k_steps
        refine comp_walk0 rfl (by k_asm) (by k_asm) (src_list (by k_asm) (by k_mem)) (fun p hp => by rw [List.mem_singleton.mp hp]; k_mem) (by decide) rfl (fun i ys => ∃ cs : List Nat, StrsAre ys (cs.map chr) ∧ cs.length ≤ i ∧ ∀ c ∈ cs, c ∈ sgnL way) ⟨[], .nil, Nat.zero_le _, fun c h => nomatch h⟩ (by omega) ?_ ?_
        · rintro i3' v3 ys3 I3 D3 C3 oI3 oC3 h7 tk7 hi3 hv3 hlen3 ⟨cs3, hcs3, hcl3, hcm3⟩ off3 F7 N7 ⟨mc3, hns3⟩ ZZ hZZ
          obtain ⟨f, tf, rfl⟩ := hJ2.2 v3 (List.mem_of_getElem? hv3)
          k_steps
          · rename ((_ : Nat) : Int) = 0 => hz0
            have h6 : ("&<>\"\ta" : Str).length = 6 := by decide
            show False
            rw [h6] at hz0
            omega
          · have h6 : ("&<>\"\ta" : Str).length = 6 := by decide
            have hcl4 : (⟨(crnl way).toArray⟩ : Str).length = (crnl way).length := by show (crnl way).toArray.size = _; simp
            have hidx : 0 ≤ ((f : Nat) : Int).fmod ((("&<>\"\ta" : Str).length + (⟨(crnl way).toArray⟩ : Str).length : Nat) : Int) ∧ ((f : Nat) : Int).fmod ((("&<>\"\ta" : Str).length + (⟨(crnl way).toArray⟩ : Str).length : Nat) : Int) < ((sgS way).length : Nat) := by
              rw [sgS_len, h6, hcl4, Int.fmod_eq_emod_of_nonneg _ (by omega)]
              exact ⟨Int.emod_nonneg _ (by omega), Int.emod_lt_of_pos _ (by omega)⟩
            refine StopS.go ?_
            refine KXi.item (x := sgS way) (n := (sgS way).length) rfl (by omega) hidx.2 (by rw [sgS_len]; omega) ?_
            intro _
            obtain ⟨c, hc, e⟩ := item_sg hidx.1 hidx.2
            rw [e]
            refine Hid.out hZZ ?_
            exact ⟨_, _, _, _, rfl, by k_asm, by k_asm, by k_asm, cs3 ++ [c], by rw [List.map_append]; exact strsAre_snoc hcs3, by rw [List.length_append]; simp only [List.length_cons, List.length_nil]; omega, fun x hx => by
              rcases List.mem_append.mp hx with hx | hx
              · exact hcm3 x hx
              · rw [List.mem_singleton.mp hx]; exact hc⟩
        · rintro ys3 D3 h7 tk7 hlen3 ⟨cs3, hcs3, hcl3, hcm3⟩ hD3 F7 N7
          dsimp only
          k_steps
          refine join_list (D := D3) (items := ys3.toArray) (News.isList (by k_asm) (by k_mem)) hcs3 ?_ ?_
          · exact joinFits (by omega)
          rw [join0_chr]
          intro t9 k9
          k_steps
          refine append_K (by k_asm) (ordX N7) (Upd.head ?hT7) ?_ (by simp only [sizeLine_eq, List.size_toArray]; have := strsAre_len hts; omega)
          case hT7 =>
            intro p hp
            simp only [List.mem_cons] at hp
            rcases hp with rfl | rfl | rfl | rfl | rfl | rfl | hp
            · exact (hoff _ (.head _)).symm
            · exact neN (by have := lT.2.1; dsimp only; omega)
            · exact (Nat.ne_of_lt (lS _ (.head _))).symm
            · exact Nat.ne_of_lt lT.1
            · exact Nat.ne_of_lt lT.2.2.1
            · exact Nat.ne_of_lt lT.2.2.2.1
            · exact Nat.ne_of_lt (allLt_all lT.2.2.2.2 p hp)
          intro h8 F8 N8
          k_steps
          rw [List.push_toArray] at N8
          refine ⟨_, _, _, _, rfl, by k_asm, ordY N8, ?_, ts ++ [.str ⟨cs3.toArray⟩ t9], _, _, _, _, zs ++ [⟨cs3.toArray⟩], rfl, by assumption, strsAre_snoc hts, by rw [List.length_append, hzl]; rfl, ?_, map1n⟩
          · intro p hp
            simp only [List.mem_cons] at hp
            rcases hp with rfl | rfl | hp
            · exact hoff (T, listOf ts.toArray ep) (.head _)
            · exact hoff (LL + 1 + 1 + 1, oc) (.tail _ (.head _))
            · exact hoff p (List.mem_cons_of_mem _ (List.mem_cons_of_mem _ (by simpa using hp)))
          · intro z hz
            rcases List.mem_append.mp hz with hz | hz
            · exact hzs z hz
            · rw [List.mem_singleton.mp hz]
              exact ⟨by show cs3.length ≤ 4; omega, hcm3⟩
    case done5 =>
      rintro m₁ n₁ h5 tk5 ⟨ts, ep, oc, vc, fv, zs, rfl, hoc, hts, hzl, hzs, rfl⟩ F5 N5
      dsimp only
      k_steps
      rename News h₀ L _ _ => kN
      subst hbase
      refine hret _ _ _ _ ⟨T, ep, ts, zs, rfl, .head _, fun p hp => .tail _ (.tail _ (.tail _ (.tail _ (.tail _ (.tail _ hp))))), hts, by rw [hzl, List.length_take, hul]; rfl, hzs, allLt_all lT.2.2.2.2⟩ (by k_asm) kN
end
/- text T18 -/
theorem w_T18 : True := by
  w_top off
  exact trivial
section
noncomputable def ampL : Nat → List Nat
  | 0 => []
  | j + 1 => 97 :: 109 :: 112 :: 59 :: ampL j
/-- a sign as the law spells it -/
noncomputable def spC (way j c : Nat) : List Nat := match (refsW way).lookup c with
  | some z => 38 :: (ampL j ++ z.drop 1)
  | none => [c]
noncomputable def spL (way j : Nat) (l : List Nat) : List Nat := l.flatMap (spC way j)
theorem lookup_mem : ∀ {l : List (Nat × List Nat)} {c : Nat} {z : List Nat}, l.lookup c = some z → (c, z) ∈ l
  | [], _, _, h => nomatch h
  | (k, v) :: r, c, z, h => by
    rw [List.lookup_cons] at h
    cases e : (c == k) with
    | true =>
      rw [e] at h
      cases h
      rw [eq_of_beq e]
      exact .head _
    | false =>
      rw [e] at h
      exact .tail _ (lookup_mem h)
theorem refsW_z {way c : Nat} {z : List Nat} (h : (refsW way).lookup c = some z) : 1 ≤ z.length ∧ z.length ≤ 6 ∧ 38 :: z.drop 1 = z := by
  have all : ∀ i : Fin 5, ∀ p ∈ refsW i.val, 1 ≤ p.2.length ∧ p.2.length ≤ 6 ∧ 38 :: p.2.drop 1 = p.2 := by decide
  have hm := lookup_mem h
  match way with
  | 0 => exact all 0 _ hm
  | 1 => exact all 1 _ hm
  | 2 => exact all 2 _ hm
  | 3 => exact all 3 _ hm
  | n + 4 => exact all 4 _ hm
theorem slice_tail {z : List Nat} (h : 1 ≤ z.length) : PySem.Txt.slice (⟨z.toArray⟩ : Str) (some 1) none = ⟨(z.drop 1).toArray⟩ := by
  have hl : (⟨z.toArray⟩ : Str).length = z.length := by show z.toArray.size = _; simp
  rw [slice_from_eq (b := z.length) (by decide) (by rw [hl]; omega) (by rw [hl])]
  congr 2
  show (z.drop 1).take _ = _
  rw [List.take_of_length_le]
  rw [List.length_drop]
  omega
theorem ampL_len : ∀ j, (ampL j).length = 4 * j
  | 0 => rfl
  | j + 1 => by
    show (ampL j).length + 1 + 1 + 1 + 1 = _
    rw [ampL_len j]; omega
theorem foldl_amp : ∀ (j : Nat) (acc : Array Nat), ((List.replicate j ("amp;" : Str).cps).foldl (· ++ ·) acc) = acc ++ (ampL j).toArray
  | 0, acc => by simp [ampL]
  | j + 1, acc => by
    rw [List.replicate_succ, List.foldl_cons, foldl_amp j]
    apply Array.toList_inj.mp
    rw [Array.toList_append, Array.toList_append, Array.toList_append, List.append_assoc]
    rfl
theorem mul_amp (j : Nat) : PySem.Txt.mul ("amp;" : Str) (j : Nat) = ⟨(ampL j).toArray⟩ := by
  unfold PySem.Txt.mul
  match j with
  | 0 => rfl
  | 1 => rfl
  | j + 2 =>
    rw [if_neg (by omega), if_neg]
    · rw [Int.toNat_natCast, foldl_amp]
      congr 1
      apply Array.toList_inj.mp
      rw [Array.toList_append]
      rfl
    · have h1 : (("amp;" : Str).length == 0) = false := by decide
      rw [h1, Bool.or_false]
      intro h
      have := eq_of_beq h
      omega
theorem spC_len {way j c : Nat} (hj : j ≤ 100) : (spC way j c).length ≤ 407 := by
  unfold spC
  cases h : (refsW way).lookup c with
  | none => show 1 ≤ 407; omega
  | some z =>
    obtain ⟨h1, h2, h3⟩ := refsW_z h
    show (ampL j ++ z.drop 1).length + 1 ≤ 407
    rw [List.length_append, ampL_len, List.length_drop]
    omega
theorem sum_map_le {α : Type} {f : α → Nat} {b : Nat} (h : ∀ a, f a ≤ b) : ∀ l : List α, (l.map f).sum ≤ b * l.length
  | [] => Nat.zero_le _
  | a :: l => by
    have h1 := sum_map_le h l
    have h2 := h a
    rw [List.map_cons, List.sum_cons, List.length_cons, Nat.mul_add]
    omega
theorem lens_eq (ss : List Str) : ss.map (fun x : Str => x.length) = (ss.map (·.cps.toList)).map List.length := by
  rw [List.map_map]
  refine List.map_congr_left fun x _ => ?_
  show x.cps.size = x.cps.toList.length
  simp
local macro_rules | `(tactic| walk_at "compareOp In str ref") => `(tactic| (k_here; refine stopSub ?_))
local macro_rules | `(tactic| walk_at "subscriptTail Name Name ref str") => `(tactic| (k_here; refine stopSub ?_))
local macro_rules | `(tactic| walk_at "subscriptTail Name Slice str ref") => `(tactic| (k_here; refine stopSub ?_))
local macro_rules | `(tactic| walk_at "binaryOp Add str str") => `(tactic| (k_here; (with_reducible show wpAny _ _ (binaryOp _ (Value.str (_ ++ _) _) _) _ _ _); refine stopSub ?_))
theorem spelled_ (w : World) (R : Addr) (oR : Obj) (way : Nat) (x : Str) (t tj : Tok) (j : Nat) (hj : j ≤ 100) (hx : x.cps.toList.length ≤ 100) (news) (hR : (R, oR) ∈ news) (hRD : RefsD w way R oR) :
  Cx w 20 200 news (call (.ref 292) [.str x t, .ref R, .int (j : Nat) tj]) (fun r n' => (∃ t', r = .str ⟨(spL way j x.cps.toList).toArray⟩ t') ∧ ∀ p ∈ news, p ∈ n') := by
  unfold Cx
  k_fill
  intro loose mean mg mb dp un gd cn cs a ccd cl outer A₀ base h₀ L m s Q E B F X N T hk hd hu hret
  obtain ⟨s1, s2, s3, s4, s5⟩ := s
  dsimp only at F N hret
  refine wpAny_call ?_
  k_dflt (refine' code_defC ?k1 ?k2 ?k3 ?k4 ?k5 ?kA ?kF ?kK ?k6 ?k7 ?k8 ?k9 ?kB ?kD ?_ ?c2 ?c3 ?c4; (case kA => exact rfl); (case kF => exact rfl); (case kK => assumption); (case k1 => k_asm); (case k2 => k_asm); (case k3 => k_asm); (case k4 => k_asm); (case k5 => k_asm); (case k6 => k_is); (case k7 => k_is); (case k8 => ktr_room); (case k9 => first | exact BindsTo.of_eq rfl | exact binds_K (by k_in) rfl (by k_is) rfl rfl rfl); (case kB => exact rfl); (case kD => decide +kernel); (case c2 => exact rfl); (case c3 => exact rfl); (case c4 => exact rfl); k_whole; intro _ _ _ _ _ _ _ N' Y' _ _ _ _; k_cells Y'; (try simp only [List.cons_append, List.nil_append] at N'); (try dsimp only))
  refine hideQ ?_
  intro QQ EE hQQ
  rename ∀ p ∈ news, p.1 < _ => l1
  obtain ⟨LL, hLL⟩ := nameIt l1
  subst hLL
  k_steps
  obtain ⟨hlo, kvs, hkv, hro⟩ := hRD
  refine comp_walk0 rfl (by k_asm) (by k_asm) src_str (fun p hp => nomatch hp) (by decide) rfl (fun i ys => ∃ ss : List Str, StrsAre ys ss ∧ ss.map (·.cps.toList) = (x.cps.toList.take i).map (spC way j)) ⟨[], .nil, rfl⟩ (by rw [← Array.length_toList]; omega) ?_ ?_
  · rintro i v ys I D C' oI oC h1 tk1 hi hv hlen ⟨ss, hss, hsc⟩ off F1 N1 ⟨mc, hns⟩ ZZ hZZ
    obtain ⟨c, u, hc, rfl⟩ := hv
    have hc2 : x.cps.toList[i]? = some c := by rw [Array.getElem?_toList]; exact hc
    k_steps
    refine StopS.go ?_
    refine kda_in (knd := PySem.strKind _ _) (by k_asm) (by k_mem) hkv hlo (strKind_is _ _ _ _) (inR way c) (hro.isSome c) ?_
    cases hin : inR way c
    · k_steps
      exact ⟨_, _, _, _, rfl, by k_asm, by k_asm, by k_asm, ss ++ [chr c], strsAre_snoc hss, by
        rw [List.map_append, hsc, take_map_succ hc2]
        congr 1
        unfold spC
        rw [Option.isSome_eq_false_iff.mp (show ((refsW way).lookup c).isSome = false from hin) |> Option.isNone_iff_eq_none.mp]
        rfl⟩
    · k_steps
      have hc9 := hro c
      obtain ⟨z, hz⟩ := Option.isSome_iff_exists.mp (show ((refsW way).lookup c).isSome = true from hin)
      rw [hz] at hc9
      obtain ⟨tz, htz⟩ := hc9
      refine StopS.go ?_
      refine kda_item (knd := PySem.strKind _ _) (by k_asm) (by k_mem) hkv (strKind_is _ _ _ _) htz ?_
      k_steps
      obtain ⟨hz1, hz2, hz3⟩ := refsW_z hz
      refine StopS.go ?_
      refine slice_strN_sn_len (by k_asm) (by k_asm) ?_ (by with_unfolding_all rfl) (by intro _; with_unfolding_all rfl) (by rw [sizeLine_eq]; show z.toArray.size ≤ _; simp only [List.size_toArray]; omega)
      intro h9 t9 k9 F9 N9 hl9
      rw [slice_tail hz1]
      k_steps
      refine StopS.go ?_
      rw [mul_amp]
      refine KXadd.add (K := 401) (L := 5) ?hK ?hL (by decide) ?_
      case hK =>
        rw [Str.length_append]
        have h1 : ("&" : Str).length = 1 := by decide
        have h2 : (⟨(ampL j).toArray⟩ : Str).length = (ampL j).length := by show (ampL j).toArray.size = _; simp
        rw [h1, h2, ampL_len]
        omega
      case hL =>
        show (z.drop 1).toArray.size ≤ 5
        simp only [List.size_toArray, List.length_drop]
        omega
      intro ta ka _
      refine Hid.out hZZ ?_
      exact ⟨_, _, _, _, rfl, by k_asm, by k_asm, by k_asm, ss ++ [_], strsAre_snoc hss, by
        rw [List.map_append, hsc, take_map_succ hc2]
        congr 1
        unfold spC
        rw [hz]
        show [(("&" : Str).cps ++ (ampL j).toArray ++ (z.drop 1).toArray).toList] = _
        rw [Array.toList_append, Array.toList_append]
        rfl⟩
  · rintro ys D h1 tk1 hlen ⟨ss, hss, hsc⟩ hD F1 N1
    dsimp only
    k_steps
    refine join_list (D := D) (items := ys.toArray) (News.isList (by k_asm) (by k_mem)) hss ?_ ?_
    · have e0 : ("" : Str).length = 0 := rfl
      rw [e0, lens_eq, hsc, List.map_map]
      have h1 := sum_map_le (f := List.length ∘ spC way j) (b := 407) (fun a => spC_len hj) (x.cps.toList.take x.cps.size)
      have h2 : (x.cps.toList.take x.cps.size).length ≤ x.cps.toList.length := by rw [List.length_take]; omega
      omega
    rw [join0]
    intro t9 k9
    k_steps
    rename News h₀ L _ _ => kN
    have e : ss.flatMap (fun x => x.cps.toList) = spL way j x.cps.toList := by
      rw [List.flatMap_def, hsc, List.take_of_length_le (by simp), ← List.flatMap_def]
      rfl
    rw [e]
    refine hret _ _ _ _ ⟨⟨_, rfl⟩, ?_⟩ (by k_asm) kN
    intro p hp
    simp only [List.mem_cons, hp, or_true]
end
/- text T20 -/
theorem w_T20 : True := by
  w_top off
  exact trivial
theorem headers_ (w : World) (l : Addr) (ep : Nat) (news) (hl : (l, listOf #[] ep) ∈ news) :
  Cx w 10 80 news (call (.ref 220) [.ref l]) (fun r n' => ∃ (x dx : Nat) (H : Int) (t : Tok) (n : Nat), r = .ref x ∧ n' = (x, instObj 220 dx) :: (dx, dictOf [⟨H, .str "_headers" t, .ref l⟩] n) :: news ∧ dx < x ∧ (∀ p ∈ news, p.1 < dx)) := by
  unfold Cx
  k_fill
  intro loose mean mg mb dp un gd cn cs a ccd cl outer A₀ base h₀ L m s Q E B F X N T hk hd hu hret
  obtain ⟨s1, s2, s3, s4, s5⟩ := s
  dsimp only at F N hret
  k_dflt (refine' call_cls ?k1 ?k2 ?k3 ?k4 ?k5 ?k6 ?_; (case k1 => k_asm); (case k2 => k_asm); (case k3 => k_asm); (case k4 => k_is); (case k5 => k_is); (case k6 => k_is); k_whole)
  intro x' d' h' F' N' l1 l2
  have o1 : ∀ p ∈ news, p.1 ≠ d' := fun p hp => Nat.ne_of_lt (l1 p hp)
  have o2 : x' ≠ d' := Nat.ne_of_gt l2
  have o3 := ltN l2
  k_dflt (refine' code_def ?k1 ?k2 ?k3 ?k4 ?k5 ?kA ?kF ?kK ?k6 ?k7 ?k8 ?k9 ?kB ?_ ?c2 ?c3 ?c4 ?c5; (case kA => exact rfl); (case kF => exact rfl); (case kK => assumption); (case k1 => k_asm); (case k2 => k_asm); (case k3 => k_asm); (case k4 => k_asm); (case k5 => k_asm); (case k6 => k_is); (case k7 => k_is); (case k8 => ktr_room); (case k9 => first | exact BindsTo.of_eq rfl | exact binds_K (by k_in) rfl (by k_is) rfl rfl rfl); (case c5 => decide); (case kB => exact locs rfl); (case c2 => exact rfl); (case c3 => exact rfl); (case c4 => exact rfl); k_whole; intro g' L' h' FG' F' N' B' X' T'; (try dsimp only); (try k_fold))
  k_steps
  rename News _ _ _ (_ :: (_, dictOf [_] _) :: _) => nN
  obtain ⟨nl, hnl⟩ := led nN
  rw [← hnl] at nN
  refine for_walk (J₀ := fun m₀ i m₁ n₁ => m₁ = m₀ ∧ n₁ = nl) rfl (by k_asm) nN (src_list (l := l) (vs := []) (nn := ep) nN (by rw [hnl]; exact .tail _ (.tail _ hl))) ⟨rfl, rfl⟩ ?_ ?_ ?_
  · rintro i m₁ n₁ ⟨rfl, rfl⟩ p hp
    rw [List.mem_singleton.mp hp, hnl]
    exact .tail _ (.tail _ hl)
  · rintro i v m₁ n₁ I oI h1 tk1 hi
    exact absurd hi (Nat.not_lt_zero _)
  · rintro m₁ n₁ h1 tk1 ⟨rfl, rfl⟩ F1 N1
    subst hnl
    dsimp only
    k_steps
    rename News h₀ L _ _ => kN
    exact hret _ _ _ _ ⟨x', d', _, _, _, rfl, rfl, o3, l1⟩ (by k_asm) kN
/- text P2 -/
theorem w_P2 : True := by
  w_top off
  exact trivial
/-- what the hand makes of a sign -/
noncomputable def hc (way c : Nat) : List Nat := ((refsW way).lookup c).getD [c]
theorem handL_eq (way : Nat) (l : List Nat) : handL (refsW way) l = l.flatMap (hc way) := rfl
noncomputable def okW (way c : Nat) : Bool := okc c && (!inR way c || c == 38)
theorem inR_lookup {way c : Nat} (h : inR way c = true) : ∃ z, (refsW way).lookup c = some z := Option.isSome_iff_exists.mp h
theorem inR_none {way c : Nat} (h : inR way c = false) : (refsW way).lookup c = none := by
  unfold inR at h
  cases e : (refsW way).lookup c with
  | none => rfl
  | some z => rw [e] at h; cases h
theorem refsW_all {P : Nat → List Nat → Bool} (all : ∀ i : Fin 5, (refsW i.val).all (fun p => P i.val p.2) = true) (h4 : ∀ n z, P (n + 4) z = P 4 z) {way c : Nat} {z : List Nat} (h : (refsW way).lookup c = some z) : P way z = true := by
  have hm := lookup_mem h
  match way with
  | 0 => exact List.all_eq_true.mp (all 0) _ hm
  | 1 => exact List.all_eq_true.mp (all 1) _ hm
  | 2 => exact List.all_eq_true.mp (all 2) _ hm
  | 3 => exact List.all_eq_true.mp (all 3) _ hm
  | n + 4 => rw [h4]; exact List.all_eq_true.mp (all 4) _ hm
theorem z_ok {way c : Nat} {z : List Nat} (h : (refsW way).lookup c = some z) : z.all (okW way) = true :=
  refsW_all (P := fun way z => z.all (okW way)) (by decide) (fun _ _ => rfl) h
theorem z_one {way c : Nat} {z : List Nat} (h : (refsW way).lookup c = some z) : z.count 38 = 1 := by
  have := refsW_all (P := fun _ z => z.count 38 == 1) (by decide) (fun _ _ => rfl) h
  exact eq_of_beq this
theorem z_tail {way c : Nat} {z : List Nat} (h : (refsW way).lookup c = some z) : (z.drop 1).flatMap (hc way) = z.drop 1 := by
  have := refsW_all (P := fun way z => (z.drop 1).flatMap (hc way) == z.drop 1) (by decide) (fun _ _ => rfl) h
  exact eq_of_beq this
theorem hc_38 (way : Nat) : hc way 38 = [38, 97, 109, 112, 59] := by
  match way with
  | 0 | 1 | 2 | 3 | n + 4 => rfl
theorem inR_38 (way : Nat) : inR way 38 = true := by
  match way with
  | 0 | 1 | 2 | 3 | n + 4 => rfl
theorem ampL_fix (way : Nat) : ∀ j, (ampL j).flatMap (hc way) = ampL j
  | 0 => rfl
  | j + 1 => by
    show hc way 97 ++ (hc way 109 ++ (hc way 112 ++ (hc way 59 ++ (ampL j).flatMap (hc way)))) = _
    rw [ampL_fix way j]
    match way with
    | 0 | 1 | 2 | 3 | n + 4 => rfl
theorem spC_next (way j c : Nat) : (spC way j c).flatMap (hc way) = spC way (j + 1) c := by
  unfold spC
  cases h : (refsW way).lookup c with
  | none =>
    show hc way c ++ [] = [c]
    unfold hc
    rw [h]
    rfl
  | some z =>
    show hc way 38 ++ (ampL j ++ z.drop 1).flatMap (hc way) = 38 :: (ampL (j + 1) ++ z.drop 1)
    rw [List.flatMap_append, ampL_fix, z_tail h, hc_38]
    rfl
theorem fm_congr {f g : Nat → List Nat} (l : List Nat) (h : ∀ c, f c = g c) : l.flatMap f = l.flatMap g := by
  rw [show f = g from funext h]
theorem spL_next (way j : Nat) (l : List Nat) : handL (refsW way) (spL way j l) = spL way (j + 1) l := by
  rw [handL_eq]
  unfold spL
  rw [List.flatMap_assoc]
  exact fm_congr l fun c => spC_next way j c
theorem spL_zero (way : Nat) (l : List Nat) : handL (refsW way) l = spL way 0 l := by
  rw [handL_eq]
  unfold spL
  refine fm_congr l fun c => ?_
  unfold hc spC
  cases h : (refsW way).lookup c with
  | none => rfl
  | some z => exact (refsW_z h).2.2.symm
noncomputable def wtL (way : Nat) (l : List Nat) : Nat := l.countP (inR way)
theorem spL_len (way j : Nat) : ∀ l : List Nat, (spL way j l).length = (spL way 0 l).length + 4 * (j * wtL way l)
  | [] => rfl
  | c :: l => by
    have ih := spL_len way j l
    unfold spL wtL at ih ⊢
    rw [List.flatMap_cons, List.flatMap_cons, List.length_append, List.length_append, ih, List.countP_cons]
    have e : (spC way j c).length = (spC way 0 c).length + 4 * (j * if inR way c = true then 1 else 0) := by
      unfold spC inR
      cases h : (refsW way).lookup c with
      | none => rfl
      | some z =>
        show (ampL j ++ z.drop 1).length + 1 = (ampL 0 ++ z.drop 1).length + 1 + 4 * (j * 1)
        rw [List.length_append, List.length_append, ampL_len, ampL_len]
        omega
    rw [e, Nat.mul_add j]
    omega
noncomputable def amps (x : Str) : Nat := x.cps.toList.count 38
noncomputable def wt (way : Nat) (x : Str) : Nat := wtL way x.cps.toList
noncomputable def Wr (way : Nat) (x : Str) : Prop := x.cps.toList.all (okW way) = true
theorem str_len (x : Str) : x.length = x.cps.toList.length := by
  show x.cps.size = _
  simp
theorem hc_wr {way c : Nat} (h : okW way c = true) : (hc way c).all (okW way) = true ∧ (hc way c).count 38 = [c].count 38 ∧ (hc way c).length = 1 + 4 * [c].count 38 := by
  cases hi : inR way c with
  | false =>
    have e : hc way c = [c] := by unfold hc; rw [inR_none hi]; rfl
    have hn : c ≠ 38 := fun e => by rw [e, inR_38] at hi; cases hi
    rw [e]
    refine ⟨by simpa using h, rfl, ?_⟩
    rw [List.count_cons, List.count_nil, if_neg (by simpa using hn)]
    rfl
  | true =>
    unfold okW at h
    rw [hi] at h
    have e : c = 38 := by
      simp only [Bool.not_true, Bool.false_or, Bool.and_eq_true, beq_iff_eq] at h
      exact h.2
    subst e
    rw [hc_38]
    refine ⟨?_, rfl, rfl⟩
    obtain ⟨z, hz⟩ := inR_lookup hi
    have e := hc_38 way
    unfold hc at e
    rw [hz] at e
    exact e ▸ z_ok hz
theorem hand_wrL {way : Nat} : ∀ {l : List Nat}, l.all (okW way) = true → (l.flatMap (hc way)).all (okW way) = true ∧ (l.flatMap (hc way)).count 38 = l.count 38 ∧ (l.flatMap (hc way)).length = l.length + 4 * l.count 38
  | [], _ => ⟨rfl, rfl, rfl⟩
  | c :: l, h => by
    rw [List.all_cons, Bool.and_eq_true] at h
    obtain ⟨a1, a2, a3⟩ := hc_wr h.1
    obtain ⟨b1, b2, b3⟩ := hand_wrL h.2
    rw [List.flatMap_cons, List.all_append, List.count_append, List.length_append, a1, b1, a2, b2, a3, b3, List.count_cons, List.length_cons, List.count_cons, List.count_nil]
    exact ⟨rfl, by omega, by omega⟩
theorem hand_wr {way : Nat} {x : Str} (h : Wr way x) : Wr way (handS way x) ∧ amps (handS way x) = amps x ∧ (handS way x).length = x.length + 4 * amps x := by
  rw [str_len, str_len]
  exact hand_wrL h
theorem hc_sg {way c : Nat} (h : c ∈ sgnL way) : (hc way c).all (okW way) = true ∧ (hc way c).count 38 = (if inR way c = true then 1 else 0) ∧ (hc way c).length ≤ 6 := by
  cases hi : inR way c with
  | true =>
    obtain ⟨z, hz⟩ := inR_lookup hi
    have e : hc way c = z := by unfold hc; rw [hz]; rfl
    rw [e]
    exact ⟨z_ok hz, z_one hz, (refsW_z hz).2.1⟩
  | false =>
    have e : hc way c = [c] := by unfold hc; rw [inR_none hi]; rfl
    rw [e]
    have hn : c ≠ 38 := fun e => by rw [e, inR_38] at hi; cases hi
    refine ⟨?_, ?_, by show 1 ≤ 6; decide⟩
    · rw [List.all_cons, List.all_nil, Bool.and_true]
      unfold okW
      rw [hi]
      rcases List.mem_append.mp h with h | h
      · have : ∀ c ∈ [38, 60, 62, 34, 9, 97], (okc c && (!false || c == 38)) = true := by decide
        exact this c h
      · have := (List.mem_filter.mp h).2
        rw [hi] at this
        cases this
    · rw [List.count_cons, List.count_nil, if_neg (by simpa using hn)]
      rfl
theorem hand_sgL {way : Nat} : ∀ {l : List Nat}, (∀ c ∈ l, c ∈ sgnL way) → (l.flatMap (hc way)).all (okW way) = true ∧ (l.flatMap (hc way)).count 38 = wtL way l ∧ (l.flatMap (hc way)).length ≤ 6 * l.length
  | [], _ => ⟨rfl, rfl, Nat.le_refl _⟩
  | c :: l, h => by
    obtain ⟨a1, a2, a3⟩ := hc_sg (h c (.head _))
    obtain ⟨b1, b2, b3⟩ := hand_sgL (l := l) fun c hc => h c (.tail _ hc)
    unfold wtL at b2 ⊢
    rw [List.flatMap_cons, List.all_append, List.count_append, List.length_append, a1, b1, a2, b2, List.countP_cons, List.length_cons]
    exact ⟨rfl, by omega, by omega⟩
theorem wt_le {way : Nat} {z : Str} (h : Sig way z) : wt way z ≤ 4 := Nat.le_trans List.countP_le_length h.1
theorem hand_sg {way : Nat} {z : Str} (h : Sig way z) : Wr way (handS way z) ∧ amps (handS way z) = wt way z ∧ (handS way z).length ≤ 24 := by
  obtain ⟨a, b, c⟩ := hand_sgL h.2
  refine ⟨a, b, ?_⟩
  rw [str_len]
  exact Nat.le_trans c (by have := h.1; omega)
theorem wr_app {way : Nat} {x y : Str} (hx : Wr way x) (hy : Wr way y) : Wr way (x ++ y) ∧ amps (x ++ y) = amps x + amps y := by
  unfold Wr amps at *
  rw [Str.cps_append, Array.toList_append, List.all_append, List.count_append, hx, hy]
  exact ⟨rfl, rfl⟩
theorem amps_le (x : Str) : amps x ≤ x.length := by
  rw [str_len]
  exact List.count_le_length
theorem okT_wr {way : Nat} {x : Str} (hx : Wr way x) (hl : x.length ≤ 1000) : OkT way x := by
  refine ⟨fun p hp => ?_, hl, ?_⟩
  · have h1 := List.all_eq_true.mp hx (x.cps.getD p 0) (by
      rw [Array.getD_eq_getD_getElem?, Array.getElem?_eq_getElem hp]
      exact Array.getElem_mem_toList hp)
    unfold okW at h1
    rw [Bool.and_eq_true] at h1
    exact h1.1
  · rw [(hand_wr hx).2.2]
    have := amps_le x
    omega
/- text P3 -/
theorem w_P3 : True := by
  w_top off
  exact trivial
noncomputable def insN (right : Bool) (W : Nat → Nat) (row : List Nat) (k : Nat) : Nat :=
  if right then bis (fun j => decide (W k < W (row.getD j 0))) row.length 0 row.length else bis (fun j => decide (W k ≤ W (row.getD j 0))) row.length 0 row.length
structure StW where
  row : List Nat
  parts : List (Nat × Nat)
  W : List Nat
noncomputable def layW (right : Bool) (k : Nat) (row : List Nat) (parts : List (Nat × Nat)) (W : List Nat) : StW :=
  ⟨insAt (insN right (fun i => W.getD i 0) row k) row k, parts, W⟩
noncomputable def stepW (right : Bool) (ws : List Nat) (k : Nat) (s : StW) : StW :=
  if k < 5 then layW right k s.row s.parts (s.W ++ [ws.getD k 0])
  else layW right k (s.row.drop 2) (s.parts ++ [(s.row.getD 0 0, s.row.getD 1 0)]) (s.W ++ [s.W.getD (s.row.getD 0 0) 0 + s.W.getD (s.row.getD 1 0) 0])
noncomputable def runW (right : Bool) (ws : List Nat) : Nat → StW
  | 0 => ⟨[], [], []⟩
  | k + 1 => stepW right ws k (runW right ws k)
theorem insAt_perm {α : Type} (i : Nat) (row : List α) (p : α) : (insAt i row p).Perm (p :: row) := by
  unfold insAt
  have := List.perm_middle (a := p) (l₁ := row.take i) (l₂ := row.drop i)
  rwa [List.take_append_drop] at this
theorem insAt_map {α β : Type} (f : α → β) (i : Nat) (row : List α) (p : α) : (insAt i row p).map f = insAt i (row.map f) (f p) := by
  unfold insAt
  rw [List.map_append, List.map_cons, List.map_take, List.map_drop]
theorem getD_snoc_lt {α : Type} {l : List α} {x d : α} {i : Nat} (h : i < l.length) : (l ++ [x]).getD i d = l.getD i d := by
  rw [List.getD_eq_getElem?_getD, List.getD_eq_getElem?_getD, List.getElem?_append_left h]
theorem getD_snoc_eq {α : Type} {l : List α} {x d : α} {i : Nat} (h : i = l.length) : (l ++ [x]).getD i d = x := by
  rw [h, List.getD_eq_getElem?_getD, List.getElem?_append_right (Nat.le_refl _), Nat.sub_self]
  rfl
theorem le_sum {α : Type} {f : α → Nat} : ∀ {l : List α} {a : α}, a ∈ l → f a ≤ (l.map f).sum
  | b :: l, a, h => by
    rw [List.map_cons, List.sum_cons]
    rcases List.mem_cons.mp h with rfl | h
    · omega
    · have := le_sum (f := f) h
      omega
theorem sum_congr {α : Type} {f g : α → Nat} {l : List α} (h : ∀ a ∈ l, f a = g a) : (l.map f).sum = (l.map g).sum := by
  rw [List.map_congr_left h]
structure InvW (k : Nat) (s : StW) : Prop where
  len : s.row.length = if k ≤ 5 then k else 10 - k
  lt : ∀ i ∈ s.row, i < k
  nd : s.row.Nodup
  wl : s.W.length = k
  pl : s.parts.length = k - 5
  sum : (s.row.map fun i => s.W.getD i 0).sum ≤ 20
  sum5 : k ≤ 5 → (s.row.map fun i => s.W.getD i 0).sum ≤ 4 * k
theorem invW_lay {right : Bool} {k : Nat} {row : List Nat} {parts : List (Nat × Nat)} {W : List Nat} {v : Nat} (h1 : row.length + 1 = if k + 1 ≤ 5 then k + 1 else 10 - (k + 1)) (h2 : ∀ i ∈ row, i < k) (h3 : row.Nodup) (h4 : W.length = k) (h5 : parts.length = k + 1 - 5)
    (h6 : (row.map fun i => W.getD i 0).sum + v ≤ 20) (h7 : k + 1 ≤ 5 → (row.map fun i => W.getD i 0).sum + v ≤ 4 * (k + 1)) : InvW (k + 1) (layW right k row parts (W ++ [v])) := by
  have hp := insAt_perm (insN right (fun i => (W ++ [v]).getD i 0) row k) row k
  have hs : ((layW right k row parts (W ++ [v])).row.map fun i => (layW right k row parts (W ++ [v])).W.getD i 0).sum = (row.map fun i => W.getD i 0).sum + v := by
    show ((insAt _ row k).map fun i => (W ++ [v]).getD i 0).sum = _
    rw [(hp.map _).sum_nat, List.map_cons, List.sum_cons, getD_snoc_eq h4.symm, Nat.add_comm, sum_congr fun i hi => getD_snoc_lt (by rw [h4]; exact h2 i hi)]
  refine ⟨?_, ?_, ?_, ?_, h5, ?_, ?_⟩
  · show (insAt _ row k).length = _
    rw [hp.length_eq, List.length_cons, h1]
  · intro i hi
    rcases List.mem_cons.mp (hp.mem_iff.mp hi) with rfl | hi
    · exact Nat.lt_succ_self _
    · exact Nat.lt_succ_of_lt (h2 i hi)
  · refine hp.nodup_iff.mpr (List.nodup_cons.mpr ⟨fun hm => absurd (h2 k hm) (Nat.lt_irrefl k), h3⟩)
  · show (W ++ [v]).length = _
    rw [List.length_append, h4]; rfl
  · rw [hs]; exact h6
  · rw [hs]; exact h7
theorem row_two {k : Nat} {s : StW} (h : InvW k s) (h5 : 5 ≤ k) (h9 : k < 9) : ∃ a b R, s.row = a :: b :: R := by
  have := h.len
  match e : s.row with
  | [] => rw [e] at this; split at this <;> simp at this <;> omega
  | [a] => rw [e] at this; split at this <;> simp at this <;> omega
  | a :: b :: R => exact ⟨a, b, R, rfl⟩
theorem runW_inv {right : Bool} {ws : List Nat} (hw : ∀ w ∈ ws, w ≤ 4) : ∀ k, k ≤ 9 → InvW k (runW right ws k)
  | 0, _ => ⟨rfl, (fun _ h => nomatch h), List.nodup_nil, rfl, rfl, Nat.zero_le _, (fun _ => Nat.zero_le _)⟩
  | k + 1, h9 => by
    have ih := runW_inv (right := right) hw k (by omega)
    show InvW (k + 1) (stepW right ws k (runW right ws k))
    unfold stepW
    by_cases h5 : k < 5
    · rw [if_pos h5]
      have hv : ws.getD k 0 ≤ 4 := by
        rw [List.getD_eq_getElem?_getD]
        cases e : ws[k]? with
        | none => exact Nat.zero_le _
        | some v => exact hw v (List.mem_of_getElem? e)
      have h8 := ih.sum5 (by omega)
      exact invW_lay (by rw [ih.len, if_pos (by omega), if_pos (by omega)]) ih.lt ih.nd ih.wl (by rw [ih.pl]; omega) (by omega) (fun _ => by omega)
    · rw [if_neg h5]
      obtain ⟨a, b, R, e⟩ := row_two ih (by omega) (by omega)
      have hl := ih.len
      have hlt := ih.lt
      have hnd := ih.nd
      have hsum := ih.sum
      rw [e] at hl hlt hnd hsum ⊢
      have hl2 : R.length + 2 = 10 - k := by
        simp only [List.length_cons] at hl
        split at hl <;> omega
      have hs2 : ((runW right ws k).W.getD a 0) + (((runW right ws k).W.getD b 0) + (R.map fun i => (runW right ws k).W.getD i 0).sum) ≤ 20 := hsum
      refine invW_lay ?_ (fun i hi => hlt i (.tail _ (.tail _ hi))) (List.nodup_cons.mp (List.nodup_cons.mp hnd).2).2 ih.wl ?_ ?_ ?_
      · show R.length + 1 = _
        rw [if_neg (by omega)]
        omega
      · rw [List.length_append, ih.pl]
        show _ + 1 = _
        omega
      · show (R.map fun i => (runW right ws k).W.getD i 0).sum + (((runW right ws k).W.getD a 0) + ((runW right ws k).W.getD b 0)) ≤ 20
        omega
      · intro h
        omega
/- text P4 -/
theorem w_P4 : True := by
  w_top off
  exact trivial
theorem bis_congr {f f' : Nat → Bool} : ∀ (n lo hi : Nat), (∀ j, j < hi → f j = f' j) → bis f n lo hi = bis f' n lo hi
  | 0, _, _, _ => rfl
  | n + 1, lo, hi, h => by
    rw [bis, bis]
    by_cases hl : lo < hi
    · rw [if_pos hl, if_pos hl, h _ (by omega), bis_congr n lo _ fun j hj => h j (by omega), bis_congr n _ hi h]
    · rw [if_neg hl, if_neg hl]
theorem insI_eq {right : Bool} {g : Nat → Int} {W : Nat → Nat} {row : List (Nat × Tok)} {R : List Nat} {k : Nat} (hr : row.map (·.1) = R.map (97 + ·)) (hg : ∀ i ∈ R, g (97 + i) = ((4 * W i : Nat) : Int)) (hk : g (97 + k) = ((4 * W k : Nat) : Int)) : insI right g row (97 + k) = insN right W R k := by
  have hl : row.length = R.length := by
    have := congrArg List.length hr
    simpa using this
  have key : ∀ j, j < R.length → g (row.getD j (0, 0)).1 = ((4 * W (R.getD j 0) : Nat) : Int) := by
    intro j hj
    have h1 : (row.getD j (0, 0)).1 = 97 + R.getD j 0 := by
      have h2 := congrArg (fun l : List Nat => l[j]?) hr
      simp only [List.getElem?_map] at h2
      rw [List.getElem?_eq_getElem hj, List.getElem?_eq_getElem (by omega)] at h2
      rw [List.getD_eq_getElem?_getD, List.getD_eq_getElem?_getD, List.getElem?_eq_getElem hj, List.getElem?_eq_getElem (by omega)]
      simpa using h2
    rw [h1]
    refine hg _ ?_
    rw [List.getD_eq_getElem?_getD, List.getElem?_eq_getElem hj]
    exact List.getElem_mem hj
  unfold insI insN
  rw [hl]
  split
  · refine bis_congr _ _ _ fun j hj => ?_
    rw [key j hj, hk]
    exact decide_eq_decide.mpr (by omega)
  · refine bis_congr _ _ _ fun j hj => ?_
    rw [key j hj, hk]
    exact decide_eq_decide.mpr (by omega)
structure TOk (right : Bool) (way : Nat) (zs : List Str) (k : Nat) (T : List Str) : Prop where
  tl : T.length = k
  wr : ∀ i, i < k → Wr way (T.getD i "") ∧ amps (T.getD i "") = (runW right (zs.map (wt way)) k).W.getD i 0
  sum : ((runW right (zs.map (wt way)) k).row.map fun i => (T.getD i "").length).sum ≤ 80 * k
  low : ∀ i, i < k → i < 5 → T.getD i "" = handS way (zs.getD i "")
  hi : ∀ i, i < k → 5 ≤ i → ∃ q, (runW right (zs.map (wt way)) k).parts[i - 5]? = some q ∧ q.1 < i ∧ q.2 < i ∧ T.getD i "" = handS way (T.getD q.1 "" ++ T.getD q.2 "")
theorem TOk.zero {right : Bool} {way : Nat} {zs : List Str} : TOk right way zs 0 [] := ⟨rfl, fun i h => absurd h (Nat.not_lt_zero i), Nat.le_refl _, fun i h => absurd h (Nat.not_lt_zero i), fun i h => absurd h (Nat.not_lt_zero i)⟩
theorem ws_le {way : Nat} {zs : List Str} (hz : ∀ z ∈ zs, Sig way z) : ∀ w ∈ zs.map (wt way), w ≤ 4 := by
  intro w hw
  obtain ⟨z, hm, rfl⟩ := List.mem_map.mp hw
  exact wt_le (hz z hm)
theorem getD_mem {zs : List Str} {k : Nat} (h : k < zs.length) : zs.getD k "" ∈ zs := by
  rw [List.getD_eq_getElem?_getD, List.getElem?_eq_getElem h]
  exact List.getElem_mem h
theorem TOk.lo {right : Bool} {way : Nat} {zs : List Str} {k : Nat} {T : List Str} (h : TOk right way zs k T) (h5 : k < 5) (hl : zs.length = 5) (hz : ∀ z ∈ zs, Sig way z) : TOk right way zs (k + 1) (T ++ [handS way (zs.getD k "")]) := by
  have hr : runW right (zs.map (wt way)) (k + 1) = layW right k (runW right (zs.map (wt way)) k).row (runW right (zs.map (wt way)) k).parts ((runW right (zs.map (wt way)) k).W ++ [(zs.map (wt way)).getD k 0]) := by
    show stepW _ _ _ _ = _
    unfold stepW
    rw [if_pos h5]
  have I := runW_inv (right := right) (ws_le hz) k (by omega)
  obtain ⟨s1, s2, s3⟩ := hand_sg (hz _ (getD_mem (by rw [hl]; exact h5)))
  have hwk : (zs.map (wt way)).getD k 0 = wt way (zs.getD k "") := by
    rw [List.getD_eq_getElem?_getD, List.getD_eq_getElem?_getD, List.getElem?_map, List.getElem?_eq_getElem (by omega)]
    rfl
  have tl := h.tl
  refine ⟨by rw [List.length_append, tl]; rfl, ?_, ?_, ?_, fun i hi h => absurd hi (by omega)⟩
  · intro i hi
    rw [hr]
    show _ ∧ _ = (_ ++ [_]).getD i 0
    rcases Nat.lt_succ_iff_lt_or_eq.mp hi with hi | rfl
    · rw [getD_snoc_lt (by omega), getD_snoc_lt (by rw [I.wl]; exact hi)]
      exact h.wr i hi
    · rw [getD_snoc_eq tl.symm, getD_snoc_eq I.wl.symm, hwk]
      exact ⟨s1, s2⟩
  · rw [hr]
    show ((insAt _ _ k).map _).sum ≤ _
    rw [((insAt_perm _ _ k).map _).sum_nat, List.map_cons, List.sum_cons, getD_snoc_eq tl.symm, sum_congr (g := fun i => (T.getD i "").length) fun i hi => by rw [getD_snoc_lt (by rw [tl]; exact I.lt i hi)]]
    have := h.sum
    omega
  · intro i hi hi5
    rcases Nat.lt_succ_iff_lt_or_eq.mp hi with hi | rfl
    · rw [getD_snoc_lt (by omega)]
      exact h.low i hi hi5
    · rw [getD_snoc_eq tl.symm]
theorem TOk.pre {right : Bool} {way : Nat} {zs : List Str} {k : Nat} {T : List Str} (h : TOk right way zs k T) (hz : ∀ z ∈ zs, Sig way z) (h9 : k < 9) {a b : Nat} {R : List Nat} (e : (runW right (zs.map (wt way)) k).row = a :: b :: R) :
    Wr way (T.getD a "" ++ T.getD b "") ∧ amps (T.getD a "" ++ T.getD b "") = (runW right (zs.map (wt way)) k).W.getD a 0 + (runW right (zs.map (wt way)) k).W.getD b 0 ∧ amps (T.getD a "" ++ T.getD b "") ≤ 20 ∧
      (T.getD a "" ++ T.getD b "").length + (R.map fun i => (T.getD i "").length).sum ≤ 80 * k ∧ a < k ∧ b < k := by
  have I := runW_inv (right := right) (ws_le hz) k (by omega)
  have hlt := I.lt
  have hsum := I.sum
  have hs := h.sum
  rw [e] at hlt hsum hs
  have ha := hlt a (.head _)
  have hb := hlt b (.tail _ (.head _))
  obtain ⟨a1, a2⟩ := h.wr a ha
  obtain ⟨b1, b2⟩ := h.wr b hb
  obtain ⟨c1, c2⟩ := wr_app a1 b1
  have hs2 : ((runW right (zs.map (wt way)) k).W.getD a 0) + (((runW right (zs.map (wt way)) k).W.getD b 0) + (R.map fun i => (runW right (zs.map (wt way)) k).W.getD i 0).sum) ≤ 20 := hsum
  have hs3 : (T.getD a "").length + ((T.getD b "").length + (R.map fun i => (T.getD i "").length).sum) ≤ 80 * k := hs
  refine ⟨c1, by rw [c2, a2, b2], by rw [c2, a2, b2]; omega, ?_, ha, hb⟩
  rw [Str.length_append]
  omega
theorem TOk.up {right : Bool} {way : Nat} {zs : List Str} {k : Nat} {T : List Str} (h : TOk right way zs k T) (hz : ∀ z ∈ zs, Sig way z) (h5 : 5 ≤ k) (h9 : k < 9) {a b : Nat} {R : List Nat} (e : (runW right (zs.map (wt way)) k).row = a :: b :: R) :
    TOk right way zs (k + 1) (T ++ [handS way (T.getD a "" ++ T.getD b "")]) := by
  have I := runW_inv (right := right) (ws_le hz) k (by omega)
  obtain ⟨p1, p2, p3, p4, ha, hb⟩ := h.pre hz h9 e
  obtain ⟨q1, q2, q3⟩ := hand_wr p1
  have hr : runW right (zs.map (wt way)) (k + 1) = layW right k R ((runW right (zs.map (wt way)) k).parts ++ [(a, b)]) ((runW right (zs.map (wt way)) k).W ++ [(runW right (zs.map (wt way)) k).W.getD a 0 + (runW right (zs.map (wt way)) k).W.getD b 0]) := by
    show stepW _ _ _ _ = _
    unfold stepW
    rw [if_neg (by omega), e]
    rfl
  have tl := h.tl
  have hlt := I.lt
  rw [e] at hlt
  refine ⟨by rw [List.length_append, tl]; rfl, ?_, ?_, ?_, ?_⟩
  · intro i hi
    rw [hr]
    show _ ∧ _ = (_ ++ [_]).getD i 0
    rcases Nat.lt_succ_iff_lt_or_eq.mp hi with hi | rfl
    · rw [getD_snoc_lt (by omega), getD_snoc_lt (by rw [I.wl]; exact hi)]
      exact h.wr i hi
    · rw [getD_snoc_eq tl.symm, getD_snoc_eq I.wl.symm]
      exact ⟨q1, by rw [q2, p2]⟩
  · rw [hr]
    show ((insAt _ _ k).map _).sum ≤ _
    rw [((insAt_perm _ _ k).map _).sum_nat, List.map_cons, List.sum_cons, getD_snoc_eq tl.symm, sum_congr (g := fun i => (T.getD i "").length) fun i hi => by rw [getD_snoc_lt (by rw [tl]; exact hlt i (.tail _ (.tail _ hi)))]]
    omega
  · intro i hi hi5
    rw [getD_snoc_lt (by omega)]
    exact h.low i (by omega) hi5
  · intro i hi hi5
    rw [hr]
    show ∃ q, (_ ++ [(a, b)])[i - 5]? = some q ∧ _
    rcases Nat.lt_succ_iff_lt_or_eq.mp hi with hi | rfl
    · obtain ⟨q, h1, h2, h3, h4⟩ := h.hi i hi hi5
      refine ⟨q, ?_, h2, h3, ?_⟩
      · rw [List.getElem?_append_left (by rw [I.pl]; omega)]
        exact h1
      · rw [getD_snoc_lt (by omega), getD_snoc_lt (by omega), getD_snoc_lt (by omega)]
        exact h4
    · refine ⟨(a, b), ?_, ha, hb, ?_⟩
      · rw [List.getElem?_append_right (by rw [I.pl]; omega), I.pl, Nat.sub_self]
        rfl
      · rw [getD_snoc_eq tl.symm]
        dsimp only
        rw [getD_snoc_lt (by omega), getD_snoc_lt (by omega)]
/-- what lies in the table -/
structure RowsOk (k : Nat) (R : List Nat) (T : List Str) (rows : List Row) : Prop where
  a : ∀ i ∈ R, ∃ r, findR (97 + i) rows = some r ∧ r.v = T.getD i ""
  b : ∀ r ∈ rows, (∃ i ∈ R, lo r.c = 97 + i) ∨ (k % 2 = 1 ∧ r.c = 65 + k ∧ r.v = "-")
  c : k % 2 = 1 → ∃ r, findR (97 + k) rows = some r ∧ r.v = "-"
  d : rows.length ≤ 2 * k
theorem RowsOk.zero : RowsOk 0 [] [] [] := ⟨(fun _ h => nomatch h), (fun _ h => nomatch h), (fun h => absurd h (by decide)), Nat.le_refl _⟩
theorem findR_filt_ne {c d : Nat} (h : lo c ≠ lo d) (rows : List Row) : findR c (rows.filter fun r => lo r.c != lo d) = findR c rows := by
  unfold findR
  rw [List.find?_filter]
  congr 1
  funext r
  by_cases e : lo r.c = lo c
  · simp [e, h]
  · simp [e]
theorem RowsOk.del {k a X : Nat} {R : List Nat} {T : List Str} {rows : List Row} (h : RowsOk k (a :: R) T rows) (hX : lo X = 97 + a) (hn : a ∉ R) (ha : a < k) : RowsOk k R T (rows.filter fun r => lo r.c != lo X) := by
  refine ⟨?_, ?_, ?_, Nat.le_trans (List.length_filter_le _ _) h.d⟩
  · intro i hi
    obtain ⟨r, h1, h2⟩ := h.a i (.tail _ hi)
    refine ⟨r, ?_, h2⟩
    rw [findR_filt_ne, h1]
    rw [hX, lo_lo]
    intro e
    exact hn ((by omega : i = a) ▸ hi)
  · intro r hr
    obtain ⟨hr1, hr2⟩ := List.mem_filter.mp hr
    rcases h.b r hr1 with ⟨i, hi, e⟩ | hy
    · rcases List.mem_cons.mp hi with rfl | hi
      · rw [hX, e] at hr2
        simp at hr2
      · exact .inl ⟨i, hi, e⟩
    · exact .inr hy
  · intro hk1
    obtain ⟨r, h1, h2⟩ := h.c hk1
    refine ⟨r, ?_, h2⟩
    rw [findR_filt_ne, h1]
    rw [hX, lo_lo]
    omega
theorem RowsOk.noneE {k : Nat} {R : List Nat} {T : List Str} {rows : List Row} (h : RowsOk k R T rows) (hR : ∀ i ∈ R, i < k) (hk : k % 2 = 0) : findR (97 + k) rows = none := by
  refine List.find?_eq_none.mpr fun r hr => ?_
  rcases h.b r hr with ⟨i, hi, e⟩ | ⟨h1, _⟩
  · have := hR i hi
    rw [e, lo_lo]
    simp only [beq_iff_eq]
    omega
  · omega
theorem mem_insAt {R : List Nat} {j k i : Nat} : i ∈ insAt j R k ↔ i = k ∨ i ∈ R := by
  rw [(insAt_perm j R k).mem_iff, List.mem_cons]
theorem RowsOk.even {k j : Nat} {R : List Nat} {T : List Str} {rows : List Row} (h : RowsOk k R T rows) (hR : ∀ i ∈ R, i < k) (hk : k % 2 = 0) (h9 : k < 9) (hT : T.length = k) {R1 R2 : Row} {text : Str} (e1 : R1.c = 66 + k) (e2 : R1.v = "-") (e3 : R2.c = 65 + k) (e4 : R2.v = text) :
    RowsOk (k + 1) (insAt j R k) (T ++ [text]) (rows ++ [R1] ++ [R2]) := by
  refine ⟨?_, ?_, ?_, by have := h.d; simp only [List.length_append, List.length_cons, List.length_nil]; omega⟩
  · intro i hi
    rcases mem_insAt.mp hi with rfl | hi
    · refine ⟨R2, findR_new ?_ ?_, by rw [getD_snoc_eq hT.symm, e4]⟩
      · refine findR_none_app (h.noneE hR hk) ?_
        rw [e1, lo_hy h9, lo_lo]; omega
      · rw [e3, lo_up h9, lo_lo]
    · obtain ⟨r, h1, h2⟩ := h.a i hi
      exact ⟨r, findR_old (findR_old h1), by rw [getD_snoc_lt (by rw [hT]; exact hR i hi), h2]⟩
  · intro r hr
    rcases List.mem_append.mp hr with hr | hr
    · rcases List.mem_append.mp hr with hr | hr
      · rcases h.b r hr with ⟨i, hi, e⟩ | ⟨h1, _⟩
        · exact .inl ⟨i, mem_insAt.mpr (.inr hi), e⟩
        · omega
      · rw [List.mem_singleton.mp hr]
        exact .inr ⟨by omega, by omega, e2⟩
    · rw [List.mem_singleton.mp hr]
      exact .inl ⟨k, mem_insAt.mpr (.inl rfl), by rw [e3, lo_up h9]⟩
  · intro _
    refine ⟨R1, ?_, e2⟩
    refine findR_old (findR_new ?_ ?_)
    · refine List.find?_eq_none.mpr fun r hr => ?_
      rcases h.b r hr with ⟨i, hi, e⟩ | ⟨h1, _⟩
      · have := hR i hi
        rw [e, show 97 + (k + 1) = 98 + k by omega, show lo (98 + k) = 98 + k by unfold lo; rw [if_neg (by omega)]]
        simp only [beq_iff_eq]
        omega
      · omega
    · rw [e1, lo_hy h9]
      unfold lo
      rw [if_neg (by omega)]
      omega
theorem RowsOk.odd {k j : Nat} {R : List Nat} {T : List Str} {rows : List Row} (h : RowsOk k R T rows) (hR : ∀ i ∈ R, i < k) (hk : k % 2 = 1) (h9 : k < 9) (hT : T.length = k) {R2 : Row} {text : Str} (e3 : R2.c = 97 + k) (e4 : R2.v = text) :
    RowsOk (k + 1) (insAt j R k) (T ++ [text]) (rows.filter (fun r => lo r.c != lo (97 + k)) ++ [R2]) := by
  refine ⟨?_, ?_, fun h => by omega, by have := h.d; have := List.length_filter_le (fun r : Row => lo r.c != lo (97 + k)) rows; simp only [List.length_append, List.length_cons, List.length_nil]; omega⟩
  · intro i hi
    rcases mem_insAt.mp hi with rfl | hi
    · exact ⟨R2, findR_new findR_filt (by rw [e3]), by rw [getD_snoc_eq hT.symm, e4]⟩
    · obtain ⟨r, h1, h2⟩ := h.a i hi
      have := hR i hi
      refine ⟨r, findR_old ?_, by rw [getD_snoc_lt (by rw [hT]; exact this), h2]⟩
      rw [findR_filt_ne, h1]
      rw [lo_lo, lo_lo]
      omega
  · intro r hr
    rcases List.mem_append.mp hr with hr | hr
    · obtain ⟨hr1, hr2⟩ := List.mem_filter.mp hr
      rcases h.b r hr1 with ⟨i, hi, e⟩ | ⟨_, h2, _⟩
      · exact .inl ⟨i, mem_insAt.mpr (.inr hi), e⟩
      · rw [h2, lo_up h9, lo_lo] at hr2
        simp at hr2
    · rw [List.mem_singleton.mp hr]
      exact .inl ⟨k, mem_insAt.mpr (.inl rfl), by rw [e3, lo_lo]⟩
/-- the law's own list of the names, brought on -/
theorem came_even {k : Nat} {R : List Nat} {T : List Str} {rows : List Row} (h : RowsOk k R T rows) (hR : ∀ i ∈ R, i < k) (hk : k % 2 = 0) (h9 : k < 9) : ((rows.map (·.c)) ++ [66 + k]).filter (fun c => c != 65 + k) = rows.map (·.c) ++ [66 + k] := by
  refine List.filter_eq_self.mpr fun c hc => ?_
  rcases List.mem_append.mp hc with hc | hc
  · obtain ⟨r, hr, rfl⟩ := List.mem_map.mp hc
    rcases h.b r hr with ⟨i, hi, e⟩ | ⟨h1, _⟩
    · have := hR i hi
      simp only [bne_iff_ne]
      intro e2
      rw [e2, lo_up h9] at e
      omega
    · omega
  · rw [List.mem_singleton.mp hc]
    simp
theorem came_odd {k : Nat} {R : List Nat} {T : List Str} {rows : List Row} (h : RowsOk k R T rows) (hR : ∀ i ∈ R, i < k) (h9 : k < 9) : (rows.map (·.c)).filter (fun c => c != 65 + k) = (rows.filter (fun r => lo r.c != lo (97 + k))).map (·.c) := by
  rw [List.filter_map]
  congr 1
  refine List.filter_congr fun r hr => ?_
  show (r.c != 65 + k) = (lo r.c != lo (97 + k))
  rw [lo_lo]
  rcases h.b r hr with ⟨i, hi, e⟩ | ⟨_, h2, _⟩
  · have := hR i hi
    rw [e]
    have h1 : r.c ≠ 65 + k := by
      intro e2
      rw [e2, lo_up h9] at e
      omega
    rw [bne_iff_ne.mpr h1, bne_iff_ne.mpr (by omega)]
  · rw [h2, lo_up h9]
    simp
/- text P5 -/
theorem w_P5 : True := by
  w_top off
  exact trivial
noncomputable def midR (right : Bool) (ws : List Nat) (k : Nat) : List Nat := if k < 5 then (runW right ws k).row else (runW right ws k).row.drop 2
noncomputable def midP (right : Bool) (ws : List Nat) (k : Nat) : List (Nat × Nat) := if k < 5 then (runW right ws k).parts else (runW right ws k).parts ++ [((runW right ws k).row.getD 0 0, (runW right ws k).row.getD 1 0)]
theorem run_succ (right : Bool) (ws : List Nat) (k : Nat) : (runW right ws (k + 1)).row = insAt (insN right (fun i => (runW right ws (k + 1)).W.getD i 0) (midR right ws k) k) (midR right ws k) k ∧ (runW right ws (k + 1)).parts = midP right ws k := by
  show (stepW _ _ _ _).row = insAt (insN right (fun i => (stepW _ _ _ _).W.getD i 0) _ k) _ k ∧ (stepW _ _ _ _).parts = _
  unfold stepW midR midP
  by_cases h : k < 5
  · simp only [if_pos h]
    exact ⟨rfl, rfl⟩
  · simp only [if_neg h]
    exact ⟨rfl, rfl⟩
theorem grow_ok {right : Bool} {way k : Nat} {zs : List Str} {R : List Nat} {T : List Str} {rows : List Row} (RO : RowsOk k R T rows) (TO : TOk right way zs k T) (hR : ∀ i ∈ R, i < k) : ∀ i ∈ R, growR way rows (97 + i) = ((4 * (runW right (zs.map (wt way)) k).W.getD i 0 : Nat) : Int) := by
  intro i hi
  obtain ⟨r, h1, h2⟩ := RO.a i hi
  obtain ⟨w1, w2⟩ := TO.wr i (hR i hi)
  unfold growR
  rw [h1]
  dsimp only
  rw [h2, (hand_wr w1).2.2, w2]
  omega
structure RunK (right : Bool) (way x dx l ro pa ca kc : Nat) (rest0 : List (Addr × Obj)) (k : Nat) (R : List Nat) (P : List (Nat × Nat)) (T : List Str) (ps : Array Value) (row : List (Nat × Tok)) (rows : List Row) (two : List Two) (cs : List (Nat × Tok)) (rest : List (Addr × Obj)) : Prop where
  hrow : row.map (·.1) = R.map (97 + ·)
  htwo : two.map (fun p => (p.i, p.j)) = P
  hcs : cs.map (·.1) = rows.map (·.c)
  hlt : ∀ i ∈ R, i < k
  rok : RowsOk k R T rows
  K : TabOk way x dx l rows rest
  TB : TabR right ps rest
  two : ∀ p ∈ two, (p.a, p.listO) ∈ rest
  sub : ∀ p ∈ rest0, p ∈ rest
  n3 : ∀ p ∈ rest, p.1 ≠ 306
  nr : ∀ p ∈ rest, p.1 ≠ ro
  np : ∀ p ∈ rest, p.1 ≠ pa
  nc : ∀ p ∈ rest, p.1 ≠ ca
  nk : ∀ p ∈ rest, p.1 ≠ kc
  fca : ro < ca
  fcp : ca ≠ pa
theorem mapTC {m : Str → Option Value} {t c : Option Value} (ht : m "text" = t) (hc : m "came" = c) : m = fun y => if y = ("text" : Str) then t else if y = ("came" : Str) then c else m y := by
  funext y
  by_cases h : y = "text"
  · rw [if_pos h, h, ht]
  · rw [if_neg h]
    by_cases h2 : y = "came"
    · rw [if_pos h2, h2, hc]
    · rw [if_neg h2]
theorem mapT {m : Str → Option Value} {t c t' : Option Value} : (fun y => if y = ("text" : Str) then t' else if y = ("text" : Str) then t else if y = ("came" : Str) then c else m y) = fun y => if y = ("text" : Str) then t' else if y = ("came" : Str) then c else m y := by
  funext y
  by_cases h : y = "text"
  · rw [if_pos h, if_pos h]
  · rw [if_neg h, if_neg h, if_neg h]
theorem mapC {m : Str → Option Value} {t c c' : Option Value} : (fun y => if y = ("came" : Str) then c' else if y = ("text" : Str) then t else if y = ("came" : Str) then c else m y) = fun y => if y = ("text" : Str) then t else if y = ("came" : Str) then c' else m y := by
  funext y
  by_cases h : y = "text"
  · rw [if_pos h, if_neg (by rw [h]; decide), if_pos h]
  · rw [if_neg h, if_neg h]
    by_cases h2 : y = "came"
    · rw [if_pos h2, if_pos h2]
    · rw [if_neg h2, if_neg h2, if_neg h2]
/- text Ds -/
theorem w_Ds : True := by
  w_top off
  exact trivial
theorem zip_drop (f : Nat → Bool) : ∀ (r : List Value) (j : Nat), (∀ k, j ≤ k → f k = false) → (r.zipIdx j).filterMap (fun x => if f x.2 = true then none else some x.1) = r
  | [], _, _ => rfl
  | a :: r, j, h => by
    rw [List.zipIdx_cons, List.filterMap_cons]
    have h1 := h j (Nat.le_refl _)
    simp only [h1, Bool.false_eq_true, if_false]
    rw [zip_drop f r (j + 1) fun k hk => h k (by omega)]
theorem zip_two (f : Nat → Bool) (a b : Value) (r : List Value) (h0 : f 0 = true) (h1 : f 1 = true) (h : ∀ k, 2 ≤ k → f k = false) : ((a :: b :: r).zipIdx).filterMap (fun x => if f x.2 = true then none else some x.1) = r := by
  show (List.zipIdx (a :: b :: r) 0).filterMap _ = _
  rw [List.zipIdx_cons, List.filterMap_cons]
  simp only [h0, if_true]
  rw [List.zipIdx_cons, List.filterMap_cons]
  simp only [h1, if_true]
  exact zip_drop f r 2 h
section
variable {prog : Program} {w : World} {A : Around} {E : Value → Shared → Prop} {s : Shared} {h₀ : Heap} {L : Addr} {m : Str → Option Value} {news : List (Addr × Obj)}
theorem delTwo {l sl : Addr} {a b : Value} {r : List Value} {n : Nat} {u : Tok} {Q : Unit → Shared → Prop} (ho : s.heap.get? l = some (listOf (a :: b :: r).toArray n)) (hs : s.heap.IsSliceOf sl .none (.int 2 u) .none)
    (hz : r.length ≤ 900)
    (h : ∀ h' n', Heap.SameBut l s.heap h' → h'.get? l = some (listOf r.toArray n') → Q () { s with heap := h' }) :
    wpAny (model prog w) A (delItem (.ref l) (.ref sl)) Q E s := by
  have hl : s.heap.IsList l (a :: b :: r).toArray := ⟨_, ho, rfl, n, rfl⟩
  obtain ⟨os, hos, hcs, hds⟩ := id hs
  have hTs : s.TypeIs (.ref sl) "slice" := ⟨os, hos, hcs⟩
  refine wpAny_delItem_slot hl.typeIs (by decide) F.slot_list_delitem (wpAny_call_entry F.slot_list_delitem hl.typeIs F.entry_list_delitem ?_ (F.args_list_delitem_2 _ _))
  show wpAny _ _ (Builtin.List.listSubscript? (.ref sl) >>= _) _ _ s
  refine wpAny_bind ?_
  unfold Builtin.List.listSubscript?
  refine wpAny_bind (wpAny_specialOf hTs slice_no_index ?_)
  simp only [Option.isNone_none, if_true]
  refine wpAny_pure ?_
  show wpAny _ _ (typeOf (.ref sl) >>= _) _ _ s
  refine wpAny_bind (wpAny_typeOf hTs ?_)
  rw [if_neg (by decide)]
  rw [listSliceParts_eq]
  refine wpAny_bind (wpAny_bind (wpAny_field hos hds (x := .none) rfl (wpAny_bind (wpAny_listPart .none ?_))))
  rw [if_neg (by decide)]
  refine wpAny_bind (wpAny_field hos hds (x := .none) rfl (wpAny_bind (wpAny_listPart .none ?_)))
  refine wpAny_bind (wpAny_field hos hds (x := .int 2 u) rfl (wpAny_bind (wpAny_listPart (.int 2 u) (wpAny_pure ?_))))
  dsimp only [rawPart]
  refine wpAny_bind (wpAny_listItems ho rfl ?_)
  have hsi : sliceIndices .none (rawInt 2) .none (a :: b :: r).toArray.size = pure (sliceBounds none (some 2) none (a :: b :: r).toArray.size) := sliceIndices_raw none (some 2) none _ (by simp)
  refine wpAny_bind (wpAny_of_eq hsi ?_)
  have hb : sliceBounds none (some 2) none (a :: b :: r).toArray.size = (0, 2, 1) := by
    simp only [sliceBounds, Option.getD_none, List.size_toArray, List.length_cons, show (1 : Int) > 0 by decide, if_true, show ¬ ((2 : Int) < 0) by decide, if_false]
    refine Prod.ext rfl (Prod.ext ?_ rfl)
    dsimp only
    omega
  rw [hb]
  dsimp only
  refine wpAny_bind (wpAny_rule ?_)
  refine wpAny_bind (m := Builtin.List.listUpdate _ _) ?_
  unfold Builtin.List.listUpdate
  have e1 := fun (f : Nat → Bool) (h0 : f 0 = true) (h1 : f 1 = true) (h : ∀ k, 2 ≤ k → f k = false) => congrArg List.toArray (zip_two f a b r h0 h1 h)
  have sel : ∀ k : Nat, 2 ≤ k → (decide ((0 : Int) ≤ (k : Int)) && decide ((k : Int) < 2) && (((k : Int) - 0) % 1 == 0)) = false := by
    intro k hk
    have : ¬ ((k : Int) < 2) := by omega
    simp [this]
  refine wpAny_updateSeq ho rfl ?_ ?_ ?_
  · refine wpAny_bind (wpAny_letGo (wpAny_pure ⟨_, rfl, ?_⟩))
    refine h _ (if r.toArray.size == (a :: b :: r).toArray.size then n else n + 1) (Heap.SameBut.update ..) ?_
    rw [Heap.get?_update_self _ ho rfl]
    show some (Obj.mapSeq _ (listOf (a :: b :: r).toArray n)) = _
    unfold Obj.mapSeq
    dsimp only
    exact congrArg (fun z : Array Value => some (listOf z (if z.size == (a :: b :: r).toArray.size then n else n + 1))) (e1 _ rfl rfl sel)
  · simp only [List.size_toArray, List.length_cons]
    rw [sizeLine_eq]; omega
  · refine Nat.le_trans (Nat.le_of_eq (congrArg Array.size (e1 _ rfl rfl sel))) ?_
    rw [sizeLine_eq]
    simp only [List.size_toArray]
    omega
theorem delTwo_K {h : Heap} {g d tk o} {l : Addr} {a b : Value} {r : List Value} {n : Nat} {u : Tok} {gn : Obj → List (Addr × Obj)} {Q : Unit → Shared → Prop} (F : Fr h₀ L h m) (N : News h₀ L h news) (U : UpdF l (listOf (a :: b :: r).toArray n) news gn) (hz : r.length ≤ 900)
    (k : ∀ h' n', Fr h₀ L h' m → News h₀ L h' (gn (listOf r.toArray n')) → Q () ⟨h', g, d, tk, o⟩) :
    wpAny (model prog w) A (delItem (.ref l) (.ref h.objs.size)) Q E ⟨h.push { cls := .type "slice", data := .fields #[.none, .int 2 u, .none] }, g, d, tk, o⟩ := by
  obtain ⟨own, rest, rfl, hg, h1, h2⟩ := U.split
  have hm := N (l, listOf (a :: b :: r).toArray n) (List.mem_append_right _ (.head _))
  have F' := F.push { cls := .type "slice", data := .fields #[.none, .int 2 u, .none] }
  have N' : News h₀ L (h.push { cls := .type "slice", data := .fields #[.none, .int 2 u, .none] }) (own ++ (l, listOf (a :: b :: r).toArray n) :: rest) := fun p hp => ⟨Heap.get?_push_of_some _ (N p hp).1, (N p hp).2⟩
  refine delTwo (Heap.get?_push_of_some _ hm.1) (Heap.IsSliceOf.new ..) hz fun h' n' hs ho' => ?_
  exact k h' n' (F'.change hs hm.2.1 hm.2.2) (hg _ ▸ N'.setAt h1 h2 hs ho')
end
theorem occ_abc : ∀ i : Fin 9, Builtin.Str.occurrences ("abcdefghi" : Str) (chr (97 + i.val)) 0 ("abcdefghi" : Str).length 1 = [i.val] := by decide +kernel
theorem idx_abc {prog : Program} {w : World} {A : Around} {E : Value → Shared → Prop} {s : Shared} {i : Nat} {t u : Tok} {Q : Value → Shared → Prop} (hi : i < 9) (h : Q (.int (i : Nat) s.toks) { s with toks := s.toks + 1 }) : wpAny (model prog w) A (call (.builtin "str.index") [.str "abcdefghi" t, .str (chr (97 + i)) u]) Q E s :=
  SC.index (occ_abc ⟨i, hi⟩) h
/- text Lr -/
theorem w_Lr : True := by
  w_top off
  exact trivial
noncomputable def apartL (as : List Nat) (r : List (Addr × Obj)) : List (Addr × Obj) := r.filter fun p => !as.contains p.1
theorem apart_ne {as : List Nat} {r : List (Addr × Obj)} {a : Nat} (h : a ∈ as) : ∀ p ∈ apartL as r, p.1 ≠ a := by
  rintro p hp e
  have := (List.mem_filter.mp hp).2
  rw [e] at this
  simp [h] at this
theorem apart_mem {as : List Nat} {r : List (Addr × Obj)} {p : Addr × Obj} (h : p ∈ r) (h2 : ∀ a ∈ as, p.1 ≠ a) : p ∈ apartL as r := by
  refine List.mem_filter.mpr ⟨h, ?_⟩
  simp only [Bool.not_eq_true', List.contains_eq_mem, decide_eq_false_iff_not]
  exact fun hm => h2 _ hm rfl
theorem apart_sub {as : List Nat} {r : List (Addr × Obj)} {p : Addr × Obj} (h : p ∈ apartL as r) : p ∈ r := (List.mem_filter.mp h).1
theorem news_eq {g : Heap} {L : Addr} {h : Heap} {ns : List (Addr × Obj)} (N : News g L h ns) {a b : Addr} {o o' : Obj} (h1 : (a, o) ∈ ns) (h2 : (b, o') ∈ ns) (e : a = b) : o = o' := by
  subst e
  exact Option.some.inj ((N _ h1).1.symm.trans (N _ h2).1)
/- text P6 -/
theorem w_P6 : True := by
  w_top off
  exact trivial
theorem tup_list {r : Row} {a : Array Value} {n : Nat} (e : tupO r = listOf a n) : False := by
  have h := congrArg Obj.cls e
  have h2 : Value.type "tuple" = Value.type "list" := h
  exact absurd (Value.type.inj h2) (by decide)
theorem tup_cell {r : Row} {o : Obj} {v : Option Value} (h : o.data = .cell v) (e : tupO r = o) : False := by
  rw [← e] at h
  cases h
theorem tup_rg {r : Row} {o : Obj} (h : RgO o) (e : tupO r = o) : False := by
  obtain ⟨_, a, b, c, h⟩ := h
  rw [← e] at h
  cases h
theorem code_list {o : Obj} {vs : Array Value} {a : Array Value} {n : Nat} (h : o.data = .fields vs) (e : o = listOf a n) : False := by
  rw [e] at h
  cases h
theorem code_cell {o o' : Obj} {vs : Array Value} {v : Option Value} (h : o.data = .fields vs) (h2 : o'.data = .cell v) (e : o = o') : False := by
  rw [e, h2] at h
  cases h
theorem code_rg {o o' : Obj} {vs : Array Value} {q : Str} {t : Tok} (h : o.data = .fields vs) (hv : vs[1]? = some (.str q t)) (h2 : RgO o') (e : o = o') : False := by
  obtain ⟨_, a, b, c, h2⟩ := h2
  rw [e, h2] at h
  cases h
  cases hv
structure Kept (way x dx l ro pa ca kc I : Nat) (right : Bool) (rows : List Row) (ps : Array Value) (rest rest2 : List (Addr × Obj)) : Prop where
  sub : ∀ p ∈ rest, p ∈ rest2
  K : TabOk way x dx l rows rest2
  TB : TabR right ps rest2
  n3 : ∀ p ∈ rest2, p.1 ≠ 306
  nr : ∀ p ∈ rest2, p.1 ≠ ro
  np : ∀ p ∈ rest2, p.1 ≠ pa
  nc : ∀ p ∈ rest2, p.1 ≠ ca
  nk : ∀ p ∈ rest2, p.1 ≠ kc
  ni : ∀ p ∈ rest2, p.1 ≠ I
theorem laid_keep {g : Heap} {L : Addr} {h : Heap} {way x dx l ro pa ca kc rc I : Nat} {right : Bool} {rows : List Row} {ps : Array Value} {rest rest' hd : List (Addr × Obj)} {a1 a2 : Array Value} {n1 n2 : Nat} {ok orr oI : Obj} {v : Option Value}
    (N : News g L h (hd ++ rest')) (LO : LaidOut way x dx l ro right rows ps ((pa, listOf a1 n1) :: (ca, listOf a2 n2) :: (kc, ok) :: (rc, orr) :: (I, oI) :: rest) rest') (hok : ok.data = .cell v) (hI : RgO oI)
    (np : ∀ p ∈ rest, p.1 ≠ pa) (nc : ∀ p ∈ rest, p.1 ≠ ca) (nk : ∀ p ∈ rest, p.1 ≠ kc) (ni : ∀ p ∈ rest, p.1 ≠ I) : Kept way x dx l ro pa ca kc I right rows ps rest (apartL [pa, ca, kc, I] rest') := by
  have mp := List.mem_append_right hd (LO.sub _ (.head _))
  have mc := List.mem_append_right hd (LO.sub _ (.tail _ (.head _)))
  have mk := List.mem_append_right hd (LO.sub _ (.tail _ (.tail _ (.head _))))
  have mi := List.mem_append_right hd (LO.sub _ (.tail _ (.tail _ (.tail _ (.tail _ (.head _))))))
  have four : ∀ {a : Nat}, a ≠ pa → a ≠ ca → a ≠ kc → a ≠ I → ∀ b ∈ [pa, ca, kc, I], a ≠ b := by
    intro a h1 h2 h3 h4 b hb
    simp only [List.mem_cons, List.not_mem_nil, or_false] at hb
    rcases hb with rfl | rfl | rfl | rfl <;> assumption
  refine ⟨fun p hp => apart_mem (LO.sub p (.tail _ (.tail _ (.tail _ (.tail _ (.tail _ hp)))))) (four (np p hp) (nc p hp) (nk p hp) (ni p hp)), ?_, ?_, fun p hp => LO.s3 p (apart_sub hp), fun p hp => LO.so p (apart_sub hp), apart_ne (by simp), apart_ne (by simp), apart_ne (by simp), apart_ne (by simp)⟩
  · refine ⟨LO.tab.a, LO.tab.b, fun p hp => LO.tab.c p (apart_sub hp), fun r hr => ?_, LO.tab.nm, LO.tab.ok⟩
    have hm := LO.tab.hr r hr
    have hm2 := List.mem_append_right hd hm
    exact apart_mem hm (four (fun e => tup_list (news_eq N hm2 mp e)) (fun e => tup_list (news_eq N hm2 mc e)) (fun e => tup_cell hok (news_eq N hm2 mk e)) (fun e => tup_rg hI (news_eq N hm2 mi e)))
  · rcases LO.TB with h0 | ⟨c', oc, vs, t, h1, hm, h2, h3⟩
    · exact .inl h0
    · have hm2 := List.mem_append_right hd hm
      exact .inr ⟨c', oc, vs, t, h1, apart_mem hm (four (fun e => code_list h2 (news_eq N hm2 mp e)) (fun e => code_list h2 (news_eq N hm2 mc e)) (fun e => code_cell h2 hok (news_eq N hm2 mk e)) (fun e => code_rg h2 h3 hI (news_eq N hm2 mi e))), h2, h3⟩
theorem laid_news {g : Heap} {L : Addr} {h : Heap} {way x dx l ro : Nat} {right : Bool} {rows : List Row} {ps : Array Value} {rest rest' : List (Addr × Obj)} {D t3 r x' dx' l' p c k rc I : Addr × Obj} {as : List Nat}
    (N : News g L h (D :: t3 :: r :: x' :: dx' :: l' :: rest')) (LO : LaidOut way x dx l ro right rows ps (p :: c :: k :: rc :: I :: rest) rest') : News g L h (D :: t3 :: r :: x' :: dx' :: l' :: p :: c :: k :: rc :: I :: apartL as rest') := by
  intro q hq
  simp only [List.mem_cons] at hq
  rcases hq with rfl | rfl | rfl | rfl | rfl | rfl | rfl | rfl | rfl | rfl | rfl | hq
  · exact N _ (.head _)
  · exact N _ (.tail _ (.head _))
  · exact N _ (.tail _ (.tail _ (.head _)))
  · exact N _ (.tail _ (.tail _ (.tail _ (.head _))))
  · exact N _ (.tail _ (.tail _ (.tail _ (.tail _ (.head _)))))
  · exact N _ (.tail _ (.tail _ (.tail _ (.tail _ (.tail _ (.head _))))))
  · exact N _ (.tail _ (.tail _ (.tail _ (.tail _ (.tail _ (.tail _ (LO.sub _ (.head _))))))))
  · exact N _ (.tail _ (.tail _ (.tail _ (.tail _ (.tail _ (.tail _ (LO.sub _ (.tail _ (.head _)))))))))
  · exact N _ (.tail _ (.tail _ (.tail _ (.tail _ (.tail _ (.tail _ (LO.sub _ (.tail _ (.tail _ (.head _))))))))))
  · exact N _ (.tail _ (.tail _ (.tail _ (.tail _ (.tail _ (.tail _ (LO.sub _ (.tail _ (.tail _ (.tail _ (.head _)))))))))))
  · exact N _ (.tail _ (.tail _ (.tail _ (.tail _ (.tail _ (.tail _ (LO.sub _ (.tail _ (.tail _ (.tail _ (.tail _ (.head _))))))))))))
  · exact N _ (.tail _ (.tail _ (.tail _ (.tail _ (.tail _ (.tail _ (apart_sub hq)))))))
theorem three_names {g : Heap} {L : Addr} {h : Heap} {ns : List (Addr × Obj)} (N : News g L h ns) {D ca : Nat} {u v : Str} {tu tv : Tok} {e1 e2 : Nat} {cs : List (Nat × Tok)} (h1 : (D, listOf #[.str u tu, .str v tv, .none] e1) ∈ ns) (h2 : (ca, listOf (cs.map nmV).toArray e2) ∈ ns) : D ≠ ca := by
  intro e
  have h3 := news_eq N h1 h2 e
  have h4 : Data.seq #[.str u tu, .str v tv, .none] e1 = Data.seq (cs.map nmV).toArray e2 := congrArg Obj.data h3
  have h5 := (Data.seq.inj h4).1
  have h6 : [Value.str u tu, .str v tv, .none] = cs.map nmV := by
    have := congrArg Array.toList h5
    simpa using this
  have h7 : Value.none ∈ cs.map nmV := by rw [← h6]; simp
  obtain ⟨q, _, hq⟩ := List.mem_map.mp h7
  cases hq
theorem row_ok {way : Nat} {rows : List Row} {T : List Str} {k : Nat} {R : List Nat} {row : List (Nat × Tok)} (hr : row.map (·.1) = R.map (97 + ·)) (hlt : ∀ i ∈ R, i < k) (hk : k ≤ 9) (rok : RowsOk k R T rows) : ∀ q ∈ row, Nm q.1 ∧ (findR q.1 rows).isSome := by
  intro q hq
  have h1 : q.1 ∈ row.map (·.1) := List.mem_map.mpr ⟨q, hq, rfl⟩
  rw [hr] at h1
  obtain ⟨i, hi, e⟩ := List.mem_map.mp h1
  have e2 : q.1 = 97 + i := e.symm
  have hik := hlt i hi
  obtain ⟨r, h2, _⟩ := rok.a i hi
  rw [e2, h2]
  exact ⟨nm_lo (by omega), rfl⟩
theorem row_okO {way : Nat} {rows : List Row} {T : List Str} {k : Nat} {R : List Nat} {row : List (Nat × Tok)} (hr : row.map (·.1) = R.map (97 + ·)) (hlt : ∀ i ∈ R, i < k) (hk : k ≤ 9) (rok : RowsOk k R T rows) : ∀ q ∈ row, Nm q.1 ∧ (findR q.1 (rows.filter fun r => lo r.c != lo (97 + k))).isSome := by
  intro q hq
  have h1 : q.1 ∈ row.map (·.1) := List.mem_map.mpr ⟨q, hq, rfl⟩
  rw [hr] at h1
  obtain ⟨i, hi, e⟩ := List.mem_map.mp h1
  have e2 : q.1 = 97 + i := e.symm
  have hik := hlt i hi
  obtain ⟨r, h2, _⟩ := rok.a i hi
  rw [e2, findR_filt_ne (by rw [lo_lo, lo_lo]; omega), h2]
  exact ⟨nm_lo (by omega), rfl⟩
theorem midR_len {right : Bool} {way k : Nat} {zs : List Str} (hz : ∀ z ∈ zs, Sig way z) (hk : k < 9) : (midR right (zs.map (wt way)) k).length ≤ 9 := by
  have I := runW_inv (right := right) (ws_le hz) k (by omega)
  have h1 : (runW right (zs.map (wt way)) k).row.length ≤ 9 := by
    rw [I.len]
    split <;> omega
  unfold midR
  split
  · exact h1
  · rw [List.length_drop]
    omega
/- text P7 -/
theorem w_P7 : True := by
  w_top off
  exact trivial
section
variable {prog : Program} {w : World} {A : Around} {E : Value → Shared → Prop} {s : Shared} {h₀ : Heap} {L : Addr} {news : List (Addr × Obj)}
theorem strOk_v {x : Str} (h : OkV x) : PyData.strOk x = true := by
  unfold PyData.strOk
  rw [← Array.all_toList, List.all_eq_true]
  intro c hc
  obtain ⟨i, hi, e⟩ := List.getElem_of_mem hc
  have hi2 : i < x.cps.size := by simpa using hi
  have h1 := h i hi2
  rw [Array.getD_eq_getD_getElem?, Array.getElem?_eq_getElem hi2] at h1
  have e2 : x.cps[i] = c := by rw [← e]; simp
  simp only [Option.getD_some, e2, okc, Bool.or_eq_true, beq_iff_eq, Bool.and_eq_true, decide_eq_true_eq] at h1
  exact decide_eq_true (by omega)
theorem strOk_nm {c : Nat} (h : Nm c) : PyData.strOk (chr c) = true := by
  show (#[c] : Array Nat).all _ = true
  rw [← Array.all_toList]
  show (decide (c < 0x110000) && true) = true
  have : c < 0x110000 := by unfold Nm at h; omega
  simp [this]
theorem neThree {a b : Addr} {x y : Str} {t u t' u' : Tok} {n n' : Nat} {Q : Value → Shared → Prop} (N : News h₀ L s.heap news) (ha : (a, listOf #[.str x t, .str y u, .none] n) ∈ news) (hb : (b, listOf #[.str x t', .str y u', .none] n') ∈ news) (hx : OkV x) (hy : OkV y) (hu : A.units + 64 < cLine)
    (h : Q (.bool false) s) : wpAny (model prog w) A (compareOp .NotEq (.ref a) (.ref b)) Q E s := by
  have hsh : SeqAt.shaped (.list [.str x, .str y, .none]) = true := by
    simp [SeqAt.shaped, PyData.canLay0, PyData.canLayAll0, PyData.depth, PyData.depthAll, strOk_v hx, strOk_v hy]
  refine ne_dataH (da := .list [.str x, .str y, .none]) (db := .list [.str x, .str y, .none]) (reads_newData (ys := [.str x t, .str y u, .none]) ⟨_, (N _ ha).1, rfl, n, rfl⟩ (.cons (.str _ _) (.cons (.str _ _) (.cons .none .nil)))) (reads_newData (ys := [.str x t', .str y u', .none]) ⟨_, (N _ hb).1, rfl, n', rfl⟩ (.cons (.str _ _) (.cons (.str _ _) (.cons .none .nil)))) hsh hsh hu ?_
  simpa [PyData.eqv, PyData.eqvAll] using h
theorem carried_nm : ∀ cs : List (Nat × Tok), CarriedAll (cs.map nmV) (cs.map fun q => PyData.str (chr q.1))
  | [] => .nil
  | q :: r => .cons (.str _ _) (carried_nm r)
theorem shaped_nm {cs : List (Nat × Tok)} (hn : ∀ q ∈ cs, Nm q.1) : SeqAt.shaped (.list (cs.map fun q => PyData.str (chr q.1))) = true := by
  have h1 : ∀ cs : List (Nat × Tok), (∀ q ∈ cs, Nm q.1) → PyData.canLayAll0 (cs.map fun q => PyData.str (chr q.1)) = true := by
    intro cs hn
    induction cs with
    | nil => rfl
    | cons q r ih => simp [PyData.canLayAll0, PyData.canLay0, ih fun p hp => hn p (.tail _ hp), strOk_nm (hn q (.head _))]
  have h2 : ∀ cs : List (Nat × Tok), PyData.depthAll (cs.map fun q => PyData.str (chr q.1)) = 0 := by
    intro cs
    induction cs with
    | nil => rfl
    | cons q r ih => simp [PyData.depthAll, PyData.depth, ih]
  simp [SeqAt.shaped, PyData.canLay0, PyData.depth, h1 cs hn, h2]
theorem eqv_nm : ∀ (cs ds : List (Nat × Tok)), cs.map (·.1) = ds.map (·.1) → PyData.eqvAll (cs.map fun q => PyData.str (chr q.1)) (ds.map fun q => PyData.str (chr q.1)) = true
  | [], [], _ => by simp [PyData.eqvAll]
  | [], _ :: _, h => by cases h
  | _ :: _, [], h => by cases h
  | a :: r, b :: t, h => by
    simp only [List.map_cons, List.cons.injEq] at h
    simp only [List.map_cons, PyData.eqvAll, PyData.eqv, eqv_nm r t h.2, h.1]
    simp
theorem neNames {a b : Addr} {cs ds : List (Nat × Tok)} {n n' : Nat} {Q : Value → Shared → Prop} (N : News h₀ L s.heap news) (ha : (a, listOf (cs.map nmV).toArray n) ∈ news) (hb : (b, listOf (ds.map nmV).toArray n') ∈ news) (hn : ∀ q ∈ cs, Nm q.1) (hu : A.units + 64 < cLine) (he : cs.map (·.1) = ds.map (·.1))
    (h : Q (.bool false) s) : wpAny (model prog w) A (compareOp .NotEq (.ref a) (.ref b)) Q E s := by
  refine ne_dataH (reads_newData ⟨_, (N _ ha).1, rfl, n, rfl⟩ (carried_nm cs)) (reads_newData ⟨_, (N _ hb).1, rfl, n', rfl⟩ (carried_nm ds)) (shaped_nm hn) (shaped_nm fun q hq => by
    have h1 : q.1 ∈ ds.map (·.1) := List.mem_map.mpr ⟨q, hq, rfl⟩
    rw [← he] at h1
    obtain ⟨p, hp, e⟩ := List.mem_map.mp h1
    rw [← e]
    exact hn p hp) hu ?_
  have e : PyData.eqv (.list (cs.map fun q => PyData.str (chr q.1))) (.list (ds.map fun q => PyData.str (chr q.1))) = true := by
    simp only [PyData.eqv]
    exact eqv_nm cs ds he
  rw [e]
  exact h
end
theorem addNames {prog : Program} {w : World} {A : Around} {E : Value → Shared → Prop} {s : Shared} {h₀ : Heap} {L : Addr} {news : List (Addr × Obj)} {m : Str → Option Value} {a b : Addr} {cs : List (Nat × Tok)} {c : Nat} {t : Tok} {n n' : Nat} {Q : Value → Shared → Prop} (F : Fr h₀ L s.heap m) (N : News h₀ L s.heap news) (ha : (a, listOf (cs.map nmV).toArray n) ∈ news) (hb : (b, listOf #[Value.str (chr c) t] n') ∈ news) (hl : cs.length ≤ 100)
    (h : ∀ D h', Fr h₀ L h' m → News h₀ L h' ((D, listOf (cs.map nmV ++ [Value.str (chr c) t]).toArray 0) :: news) → (∀ p ∈ news, p.1 < D) → Q (.ref D) { s with heap := h' }) :
    wpAny (model prog w) A (binaryOp .Add (.ref a) (.ref b)) Q E s :=
  kmk_add_lit (its := (cs.map nmV).toArray) (its2 := #[Value.str (chr c) t]) F N ⟨_, (N _ ha).1, rfl, n, rfl⟩ ⟨_, (N _ hb).1, rfl, n', rfl⟩ rfl h (by rw [sizeLine_eq]; simp only [List.length_map, List.length_cons, List.length_nil]; omega)
theorem keys_nm (rows : List Row) : (rows.map fun r => Value.str (chr r.c) r.kt) = (rows.map fun r => (r.c, r.kt)).map nmV := by
  rw [List.map_map]
  rfl
/- text T21 -/
theorem w_T21 : True := by
  w_top off
  exact trivial
section
local macro_rules | `(tactic| walk_at "call ref") => `(tactic| (k_here; k_dflt (focus ((refine' Cx.go (hand_ _ _ _ _ _ _ ?_ ?_) ?_); all_goals (walk_at "post")))))
structure Box (p : Prop) : Prop where
  out : p
local macro_rules | `(tactic| walk_at "call ref") => `(tactic| (k_here; k_dflt (focus ((refine' Cx.go (headers_ _ _ _ _ ?_) ?_); all_goals (walk_at "post")))))
theorem nameLt1 {a b : Nat} {p : Prop} (_h : @LT.lt Nat _ a b ∧ p) : ∃ c : Nat, c = a := ⟨_, rfl⟩
noncomputable def CutMark2 : Prop := True
noncomputable def ExprM (prog : Program) (w : World) (A : Around) (st : Stmt) (env : Env) (Q : Flow → Shared → Prop) (E : Value → Shared → Prop) (s : Shared) : Prop := wpAny (model prog w) A (exec st env) Q E s
theorem Expr_cut {prog : Program} {w : World} {A : Around} {st : Stmt} {env : Env} {Q : Flow → Shared → Prop} {E : Value → Shared → Prop} {s : Shared} (h : ExprM prog w A st env Q E s) : wpAny (model prog w) A (exec st env) Q E s := h
local macro_rules | `(tactic| walk_at "exec Expr") => `(tactic| (k_here; (rename CutMark2 => cm); clear cm; refine Expr_cut ?_))
noncomputable def StopC (prog : Program) (w : World) (A : Around) (t : Sem Value) (Q E : Value → Shared → Prop) (s : Shared) : Prop := wpAny (model prog w) A t Q E s
theorem stopAt {prog : Program} {w : World} {A : Around} {f : Nat} {args : List Value} {Q E : Value → Shared → Prop} {s : Shared} (hf : ([167, 138, 311, 172, 184] : List Nat).contains f = true) (h : StopC prog w A (call (.ref f) args) Q E s) : wpAny (model prog w) A (call (.ref f) args) Q E s := h
local macro_rules | `(tactic| walk_at "call ref") => `(tactic| (k_here; refine stopAt (by decide) ?_))
theorem strsAre_get : ∀ {vs : List Value} {ys : List Str}, StrsAre vs ys → ∀ {k : Nat}, k < ys.length → ∃ t, vs[k]? = some (.str (ys.getD k "") t)
  | _, _, .cons y t r, 0, _ => ⟨t, rfl⟩
  | _, _, .cons y t r, k + 1, h => strsAre_get r (Nat.lt_of_succ_lt_succ h)
theorem item_strK {prog : Program} {w : World} {A : Around} {E : Value → Shared → Prop} {s : Shared} {h₀ : Heap} {L : Addr} {news : List (Addr × Obj)} {value slice : PySem.Expr} {D : Addr} {ep : Nat} {ts : List Value} {zs : List Str} {k : Nat} {u : Tok} {Q : Value → Shared → Prop} (N : News h₀ L s.heap news) (hm : (D, listOf ts.toArray ep) ∈ news) (hts : Box (StrsAre ts zs)) (hk : k < zs.length) (hk2 : zs.length ≤ 100) (h : ∀ t, Q (.str (zs.getD k "") t) s)
    (hs : subscripted slice false (.ref D) (.int (k : Nat) u) = operate [.ref D, .int (k : Nat) u] (getItem (.ref D) (.int (k : Nat) u)) := by with_unfolding_all rfl) (hg : ∀ r, letTemporaryGo value (.ref D) r = pure () := by intro _; with_unfolding_all rfl) :
    wpAny (model prog w) A (subscriptTail value slice (.ref D) (.int (k : Nat) u)) Q E s := by
  obtain ⟨t, ht⟩ := strsAre_get hts.out hk
  exact item_listL (News.isList N hm) (by omega) (by omega) (by rw [Int.toNat_natCast]; exact ht) (h t) hs hg
local macro_rules | `(tactic| walk_at "subscriptTail") => `(tactic| (k_here; (with_reducible show wpAny _ _ (subscriptTail _ _ (Value.ref _) (Value.int _ _)) _ _ _); k_dflt (refine' item_strK ?N ?m ?t ?k ?k2 ?_; (case N => k_asm); (case m => k_mem); (case t => assumption); (case k => omega); (case k2 => omega)); intro t9))
local macro_rules | `(tactic| walk_at "subscriptTail Name Constant ref int") => `(tactic| (k_here; k_dflt (refine' item_listL (l := List.map nmV (_ :: _)) ?hl ?h0 ?hf ?hx ?_; (case hl => exact News.isList (by k_asm) (by k_mem)); (case h0 => decide); (case hf => decide); (case hx => exact rfl))))
local macro_rules | `(tactic| walk_at "compareOp NotEq ref ref") => `(tactic| (k_here; k_dflt (refine' neNames ?N ?a ?b ?n ?u ?e ?_; (case N => k_asm); (case a => k_mem); (case b => k_mem); (case n => assumption); (case e => assumption); (case u => first | ktr_units | ke_room))))
local macro_rules | `(tactic| walk_at "compareOp NotEq ref ref") => `(tactic| (k_here; k_dflt (refine' neThree ?N ?a ?b ?x ?y ?u ?_; (case N => k_asm); (case a => k_mem); (case b => k_mem); (case x => assumption); (case y => assumption); (case u => first | ktr_units | ke_room))))
theorem push_nm {cs : List (Nat × Tok)} {c : Nat} {t : Tok} : ((cs.map nmV).toArray.push (.str (chr c) t)) = ((cs ++ [(c, t)]).map nmV).toArray := by
  rw [List.push_toArray, List.map_append]
  rfl
theorem abcUp {k : Nat} (h : k < 9) : PySem.Txt.item ("ABCDEFGHI" : Str) (k : Nat) = chr (65 + k) := by
  have : ∀ i : Fin 9, PySem.Txt.item ("ABCDEFGHI" : Str) (i.val : Nat) = chr (65 + i.val) := by decide +kernel
  exact this ⟨k, h⟩
noncomputable def mixC (k : Nat) : Nat := if k % 2 = 0 then 65 + k else 97 + k
theorem abcMix {k : Nat} (h : k < 9) : PySem.Txt.item ("AbCdEfGhI" : Str) (k : Nat) = chr (mixC k) := by
  have : ∀ i : Fin 9, PySem.Txt.item ("AbCdEfGhI" : Str) (i.val : Nat) = chr (mixC i.val) := by decide +kernel
  exact this ⟨k, h⟩
local macro_rules | `(tactic| walk_at "subscriptTail") => `(tactic| (k_here; (with_reducible show wpAny _ _ (subscriptTail _ _ (Value.str (PySem.Str.ofString "ABCDEFGHI") _) (Value.int _ _)) _ _ _); (refine KXi.item (by kxi_len) (by kxi_fact) (by kxi_fact) (by decide) ?_); intro kxiE; rw [abcUp (by assumption)]; clear kxiE))
local macro_rules | `(tactic| walk_at "subscriptTail") => `(tactic| (k_here; (with_reducible show wpAny _ _ (subscriptTail _ _ (Value.str (PySem.Str.ofString "AbCdEfGhI") _) (Value.int _ _)) _ _ _); (refine KXi.item (by kxi_len) (by kxi_fact) (by kxi_fact) (by decide) ?_); intro kxiE; rw [abcMix (by assumption)]; clear kxiE))
theorem ordX2 {g : Heap} {L : Addr} {h : Heap} {t3 ro x dx l pa kc rc I : Addr × Obj} {ca : Addr} {cs : List (Nat × Tok)} {c e : Nat} {t : Tok} {r : List (Addr × Obj)} (N : News g L h ((ca, listOf ((cs.map nmV).toArray.push (.str (chr c) t)) e) :: I :: t3 :: ro :: x :: dx :: l :: pa :: kc :: rc :: r)) :
    ∃ cs2 : List (Nat × Tok), cs2.map (·.1) = cs.map (·.1) ++ [c] ∧ News g L h (I :: t3 :: ro :: x :: dx :: l :: pa :: (ca, listOf (cs2.map nmV).toArray e) :: kc :: rc :: r) := by
  refine ⟨cs ++ [(c, t)], by rw [List.map_append]; rfl, ?_⟩
  rw [push_nm] at N
  repeat (refine nc (nm N (by repeat (first | exact .head _ | refine .tail _ ?_))) ?_)
  exact fun p hp => N p (by repeat (first | exact hp | refine .tail _ ?_))
theorem chr_bne {a b : Nat} : (chr a != chr b) = (a != b) := by
  by_cases e : a = b
  · rw [e]; simp
  · have : ¬ (chr a == chr b) = true := fun h => e (chr_eq.mp h)
    simp only [Bool.not_eq_true] at this
    show (!(chr a == chr b)) = _
    rw [this, bne_iff_ne.mpr e]
    rfl
theorem ordX3 {g : Heap} {L : Addr} {h : Heap} {D4 : Addr} {E D3 I t3 ro x dx l pa ca kc rc : Addr × Obj} {cs : List (Nat × Tok)} {c e : Nat} {t : Tok} {r : List (Addr × Obj)} (N : News g L h ((D4, listOf (cs.map nmV ++ [Value.str (chr c) t]).toArray e) :: E :: D3 :: I :: t3 :: ro :: x :: dx :: l :: pa :: ca :: kc :: rc :: r)) :
    ∃ cs3 : List (Nat × Tok), cs3.map (·.1) = cs.map (·.1) ++ [c] ∧ News g L h (x :: dx :: l :: (D4, listOf (cs3.map nmV).toArray e) :: I :: t3 :: ro :: pa :: ca :: kc :: rc :: r) := by
  refine ⟨cs ++ [(c, t)], by rw [List.map_append]; rfl, ?_⟩
  rw [show cs.map nmV ++ [Value.str (chr c) t] = (cs ++ [(c, t)]).map nmV by rw [List.map_append]; rfl] at N
  repeat (refine nc (nm N (by repeat (first | exact .head _ | refine .tail _ ?_))) ?_)
  exact fun p hp => N p (by repeat (first | exact hp | refine .tail _ ?_))
local macro_rules | `(tactic| walk_at "binaryOp Add ref ref") => `(tactic| (k_here; k_dflt (refine' addNames ?F ?N ?a ?b ?z ?_; (case F => k_asm); (case N => k_asm); (case a => k_mem); (case b => k_mem); (case z => assumption)); intro D' h' F' N' l1))
theorem ordZ {g : Heap} {L : Addr} {h : Heap} {D5 Dk D4 I t3 ro x dx l pa ca kc rc : Addr × Obj} {r : List (Addr × Obj)} (N : News g L h (D5 :: Dk :: x :: dx :: l :: D4 :: I :: t3 :: ro :: pa :: ca :: kc :: rc :: r)) : News g L h (I :: t3 :: ro :: x :: dx :: l :: pa :: D4 :: kc :: rc :: r) := by
  repeat (refine nc (nm N (by repeat (first | exact .head _ | refine .tail _ ?_))) ?_)
  exact fun p hp => N p (by repeat (first | exact hp | refine .tail _ ?_))
theorem nameFr {g : Heap} {L : Addr} {h : Heap} {m : Str → Option Value} {v c : Option Value} (_F : Fr g L h (fun y => if y = ("text" : Str) then v else if y = ("came" : Str) then c else m y)) : ∃ g', g' = g ∧ ∃ m', m' = m := ⟨_, rfl, _, rfl⟩
theorem nameO {o : Obj} {d : Data} (_h : o.data = d) : ∃ o', o' = o := ⟨_, rfl⟩
local macro_rules | `(tactic| walk_at "call builtin:str.index") => `(tactic| (k_here; refine idx_abc (by omega) ?_))
local macro_rules | `(tactic| walk_at "delItem ref ref") => `(tactic| (k_here; k_dflt (refine' delTwo_K ?F ?N ?U ?z ?_; (case F => k_asm); (case N => k_asm); (case U => k_updF); (case z => (simp only [List.length_map]; omega))); intro h9 n9 F9 N9))
theorem row_shape {row : List (Nat × Tok)} {a b : Nat} {R : List Nat} (h : row.map (·.1) = (a :: b :: R).map (97 + ·)) : ∃ ta tb row', row = (97 + a, ta) :: (97 + b, tb) :: row' ∧ row'.map (·.1) = R.map (97 + ·) := by
  match row with
  | [] => simp at h
  | [_] => simp at h
  | (p, ta) :: (q, tb) :: row' =>
    simp only [List.map_cons, List.cons.injEq] at h
    obtain ⟨h1, h2, h⟩ := h
    subst h1 h2
    exact ⟨ta, tb, row', rfl, h⟩
theorem ordP {g : Heap} {L : Addr} {h : Heap} {D2 D' I t3 ro x dx l pa : Addr × Obj} {r : List (Addr × Obj)} (N : News g L h (D2 :: D' :: I :: t3 :: ro :: x :: dx :: l :: pa :: r)) : News g L h (pa :: I :: t3 :: ro :: x :: dx :: l :: D2 :: r) := by
  repeat (refine nc (nm N (by repeat (first | exact .head _ | refine .tail _ ?_))) ?_)
  exact fun p hp => N p (by repeat (first | exact hp | refine .tail _ ?_))
theorem ordQ {g : Heap} {L : Addr} {h : Heap} {D2 I t3 ro x dx l pa ca kc rc : Addr × Obj} {r : List (Addr × Obj)} (N : News g L h (pa :: I :: t3 :: ro :: x :: dx :: l :: D2 :: ca :: kc :: rc :: r)) : News g L h (I :: t3 :: ro :: x :: dx :: l :: pa :: ca :: kc :: rc :: D2 :: r) := by
  repeat (refine nc (nm N (by repeat (first | exact .head _ | refine .tail _ ?_))) ?_)
  exact fun p hp => N p (by repeat (first | exact hp | refine .tail _ ?_))
theorem news_back {g : Heap} {L : Addr} {h : Heap} {pre : List (Addr × Obj)} {x dx l : Addr} {H : Int} {t : Tok} {n ep : Nat} {rows : List Row} {rest : List (Addr × Obj)} (N : News g L h (tabL x dx l H t n ep rows ++ (pre ++ rest))) : News g L h (pre ++ (tabL x dx l H t n ep rows ++ rest)) := by
  intro p hp
  refine N p ?_
  simp only [List.mem_append] at hp ⊢
  rcases hp with hp | hp | hp <;> simp [hp]
theorem anyTwo {a b c : Nat} : ([chr a, chr b].any fun x => x == chr c) = (a == c || b == c) := by
  have h : ∀ a : Nat, (chr a == chr c) = (a == c) := by
    intro a
    by_cases e : a = c
    · rw [e]; simp
    · have : ¬ (chr a == chr c) = true := fun h => e (chr_eq.mp h)
      simp only [Bool.not_eq_true] at this
      rw [this]
      simp [e]
  simp only [List.any_cons, List.any_nil, Bool.or_false, h]
theorem mapCT {m : Str → Option Value} {t c t' c' : Option Value} : (fun y => if y = ("came" : Str) then c' else if y = ("text" : Str) then t' else if y = ("text" : Str) then t else if y = ("came" : Str) then c else m y) = fun y => if y = ("text" : Str) then t' else if y = ("came" : Str) then c' else m y := by
  funext y
  by_cases h : y = "text"
  · rw [if_pos h, if_neg (by rw [h]; decide), if_pos h]
  · rw [if_neg h, if_neg h, if_neg h]
    by_cases h2 : y = "came"
    · rw [if_pos h2, if_pos h2]
    · rw [if_neg h2, if_neg h2, if_neg h2]
theorem ordU {g : Heap} {L : Addr} {h : Heap} {D3 I t3 ro x dx l pa ca kc rc : Addr × Obj} {r : List (Addr × Obj)} (N : News g L h (D3 :: I :: t3 :: ro :: x :: dx :: l :: pa :: ca :: kc :: rc :: r)) : News g L h (I :: t3 :: ro :: x :: dx :: l :: pa :: D3 :: kc :: rc :: r) := by
  repeat (refine nc (nm N (by repeat (first | exact .head _ | refine .tail _ ?_))) ?_)
  exact fun p hp => N p (by repeat (first | exact hp | refine .tail _ ?_))
theorem ordL {g : Heap} {L : Addr} {h : Heap} {I t3 ro x dx l pa ca kc rc : Addr × Obj} {r : List (Addr × Obj)} (N : News g L h (I :: t3 :: ro :: x :: dx :: l :: pa :: ca :: kc :: rc :: r)) : News g L h (t3 :: ro :: x :: dx :: l :: pa :: ca :: kc :: rc :: I :: r) := by
  repeat (refine nc (nm N (by repeat (first | exact .head _ | refine .tail _ ?_))) ?_)
  exact fun p hp => N p (by repeat (first | exact hp | refine .tail _ ?_))
theorem ordV {g : Heap} {L : Addr} {h : Heap} {Dn DL t3 ro x dx l pa ca kc rc I : Addr × Obj} {r : List (Addr × Obj)} (N : News g L h (Dn :: DL :: t3 :: ro :: x :: dx :: l :: pa :: ca :: kc :: rc :: I :: r)) : News g L h (ca :: I :: t3 :: ro :: x :: dx :: l :: pa :: kc :: rc :: r) := by
  repeat (refine nc (nm N (by repeat (first | exact .head _ | refine .tail _ ?_))) ?_)
  exact fun p hp => N p (by repeat (first | exact hp | refine .tail _ ?_))
theorem ordW {g : Heap} {L : Addr} {h : Heap} {t3 ro x dx l pa ca kc rc I : Addr × Obj} {r : List (Addr × Obj)} (N : News g L h (ca :: I :: t3 :: ro :: x :: dx :: l :: pa :: kc :: rc :: r)) : News g L h (I :: t3 :: ro :: x :: dx :: l :: pa :: ca :: kc :: rc :: r) := by
  repeat (refine nc (nm N (by repeat (first | exact .head _ | refine .tail _ ?_))) ?_)
  exact fun p hp => N p (by repeat (first | exact hp | refine .tail _ ?_))
theorem nameD {g : Heap} {L : Addr} {h : Heap} {a b c d : Addr × Obj} {r : List (Addr × Obj)} {dx : Addr} {H : Int} {s : Str} {t : Tok} {v : Value} {n : Nat} (_N : News g L h (a :: b :: c :: d :: (dx, dictOf [⟨H, .str s t, v⟩] n) :: r)) : ∃ H' t' n', H' = H ∧ t' = t ∧ n' = n := ⟨_, _, _, rfl, rfl, rfl⟩
theorem ordR {g : Heap} {L : Addr} {h : Heap} {pa ca ro x dx l kc rc t3 : Addr × Obj} {r : List (Addr × Obj)} (N : News g L h (pa :: ca :: ro :: x :: dx :: l :: kc :: rc :: t3 :: r)) : News g L h (t3 :: ro :: x :: dx :: l :: pa :: ca :: kc :: rc :: r) := by
  repeat (refine nc (nm N (by repeat (first | exact .head _ | refine .tail _ ?_))) ?_)
  exact fun p hp => N p (by repeat (first | exact hp | refine .tail _ ?_))
theorem ordS {g : Heap} {L : Addr} {h : Heap} {a b : Addr × Obj} {r : List (Addr × Obj)} (N : News g L h (a :: b :: r)) : News g L h (b :: a :: r) := by
  repeat (refine nc (nm N (by repeat (first | exact .head _ | refine .tail _ ?_))) ?_)
  exact fun p hp => N p (by repeat (first | exact hp | refine .tail _ ?_))
structure RunPost (right : Bool) (way : Nat) (zs : List Str) (rest0 : List (Addr × Obj)) (r : Value) (n' : List (Addr × Obj)) (TT D pa epD epp : Nat) (two : List Two) (R1 R2 : Row) (T : List Str) (ps : Array Value) : Prop where
  r : r = .ref TT
  tt : (TT, { cls := .type "tuple", data := .seq [Value.ref D, .ref pa].toArray }) ∈ n'
  d : (D, listOf (refsL [R1, R2]).toArray epD) ∈ n'
  r1 : (R1.a, tupO R1) ∈ n'
  r2 : (R2.a, tupO R2) ∈ n'
  c1 : R1.c = 74
  v1 : R1.v = "-"
  c2 : R2.c = 73
  v2 : R2.v = T.getD 8 ""
  pa : (pa, listOf (twos two).toArray epp) ∈ n'
  tw : ∀ p ∈ two, (p.a, p.listO) ∈ n'
  ij : two.map (fun p => (p.i, p.j)) = (runW right (zs.map (wt way)) 9).parts
  T : TOk right way zs 9 T
  p3 : (306, tabObj ps) ∈ n'
  TB : TabR right ps n'
  sub : ∀ p ∈ rest0, p ∈ n'
inductive RunJ (right : Bool) (way : Nat) (zs : List Str) (x dx l ro pa LL : Nat) (H : Int) (tH : Tok) (n0 : Nat) (rest0 : List (Addr × Obj)) (m₀ : Str → Option Value) (i : Nat) (m₁ : Str → Option Value) (n₁ : List (Addr × Obj)) : Prop
  | mk (ps : Array Value) (row : List (Nat × Tok)) (ep2 ep : Nat) (rows : List Row) (two : List Two) (epp ca : Nat) (cs : List (Nat × Tok)) (epc : Nat) (ok orr : Obj) (vk tv : Option Value) (rest : List (Addr × Obj)) (T : List Str) (h0 : n₁ = (306, tabObj ps) :: (ro, listOf (row.map nmV).toArray ep2) :: (x, instObj 220 dx) :: (dx, dictOf [⟨H, .str "_headers" tH, .ref l⟩] n0) :: (l, listOf (refsL rows).toArray ep) :: (pa, listOf (twos two).toArray epp) :: (ca, listOf (cs.map nmV).toArray epc) :: (LL + 1 + 1, ok) :: (LL + 1, orr) :: rest) (h1 : (m₁ = fun y => if y = ("text" : Str) then tv else if y = ("came" : Str) then some (.ref ca) else m₀ y)) (h2 : ok.data = .cell vk) (h3 : orr.data = .cell (some (.ref ro))) (h4 : RunK right way x dx l ro pa ca (LL + 1 + 1) rest0 i (runW right (zs.map (wt way)) i).row (runW right (zs.map (wt way)) i).parts T ps row rows two cs rest) (h5 : TOk right way zs i T) (h6 : (i = 9 → ∃ R1 R2, rows = [R1, R2] ∧ R1.c = 74 ∧ R1.v = "-" ∧ R2.c = 73 ∧ R2.v = T.getD 8 "")) : RunJ right way zs x dx l ro pa LL H tH n0 rest0 m₀ i m₁ n₁
inductive RunM (right : Bool) (way : Nat) (zs : List Str) (x dx l ro LL : Nat) (H : Int) (tH : Tok) (n0 : Nat) (rest0 : List (Addr × Obj)) (G : Heap) (I : Nat) (oI ok1 orr : Obj) (k : Nat) (M0 : Str → Option Value) (T9 : List Str) (pa : Nat) (s : Shared) (f : Flow) (s' : Shared) : Prop
  | mk (h0 : f = .next) (h' : Heap) (tk' : Tok) (ps : Array Value) (row : List (Nat × Tok)) (ep2 ep : Nat) (rows : List Row) (two : List Two) (epp ca : Nat) (cs : List (Nat × Tok)) (epc : Nat) (rest : List (Addr × Obj)) (text : Str) (tt : Tok) (h1 : s' = { s with heap := h', toks := tk' }) (h2 : (Fr G LL h' fun y => if y = ("text" : Str) then some (.str text tt) else if y = ("came" : Str) then some (.ref ca) else M0 y)) (h3 : News G LL h' ((I, oI) :: (306, tabObj ps) :: (ro, listOf (row.map nmV).toArray ep2) :: (x, instObj 220 dx) :: (dx, dictOf [⟨H, .str "_headers" tH, .ref l⟩] n0) :: (l, listOf (refsL rows).toArray ep) :: (pa, listOf (twos two).toArray epp) :: (ca, listOf (cs.map nmV).toArray epc) :: (LL + 1 + 1, ok1) :: (LL + 1, orr) :: rest)) (h4 : RunK right way x dx l ro pa ca (LL + 1 + 1) rest0 k (midR right (zs.map (wt way)) k) (midP right (zs.map (wt way)) k) T9 ps row rows two cs rest) (h5 : TOk right way zs (k + 1) (T9 ++ [text])) (h6 : OkT way text) (h7 : (k = 8 → rows = [])) (h8 : (∀ p ∈ rest, p.1 ≠ I)) (h9 : @Ne Nat ca I) : RunM right way zs x dx l ro LL H tH n0 rest0 G I oI ok1 orr k M0 T9 pa s f s'
theorem idG {α : Type} {e : α} {P : α → Prop} (h : ∀ x, e = x → P x) : ∀ x, e = x → P x := h
theorem Half.vals {k : Nat} {rows : List Row} {text : Str} {rowsN : List Row} {v1 v2 : Value} (h : Half k rows text rowsN v1 v2) : ∃ s ta tb, v1 = .str s ta ∧ v2 = .str text tb ∧ (k % 2 = 1 → s = "-") ∧ (k % 2 = 0 → s = text) ∧
    ((k % 2 = 0 ∧ ∃ R1 R2 : Row, rowsN = rows ++ [R1] ++ [R2] ∧ R1.c = 66 + k ∧ R1.v = "-" ∧ R2.c = 65 + k ∧ R2.v = text) ∨ (k % 2 = 1 ∧ ∃ R2 : Row, rowsN = rows.filter (fun r => lo r.c != lo (97 + k)) ++ [R2] ∧ R2.c = 97 + k ∧ R2.v = text)) := by
  rcases h with ⟨h, R1, R2, ta, tb, h1, h2, h3, h4⟩ | ⟨h, R2, ta, tb, h1, h2⟩
  · exact ⟨_, _, _, rfl, rfl, fun e => absurd (h.symm.trans e) (by decide), fun _ => rfl, .inl ⟨h, R1, R2, rfl, h1, h2, h3, h4⟩⟩
  · exact ⟨_, _, _, rfl, rfl, fun _ => rfl, fun e => absurd (h.symm.trans e) (by decide), .inr ⟨h, R2, rfl, h1, h2⟩⟩
inductive IfxMid (x : Str) (h : Heap) (g d o) : Value → Shared → Prop
  | mk (t tk' : Nat) : IfxMid x h g d o (.str x t) ⟨h, g, d, tk', o⟩
theorem ifx_cut {M : Model} {A : Around} {T : Sem Value} {Q E : Value → Shared → Prop} {h : Heap} {g d tk o} (x : Str) (walk : wpAny M A T (IfxMid x h g d o) E ⟨h, g, d, tk, o⟩) (next : ∀ v s', IfxMid x h g d o v s' → Q v s') : wpAny M A T Q E ⟨h, g, d, tk, o⟩ :=
  wpAny_mono walk next fun _ _ e => e
inductive CameMid (g : Heap) (L : Addr) (m : Str → Option Value) (ca : Addr) (r' : List (Addr × Obj)) (cs1 : List (Nat × Tok)) (k : Nat) (s : Shared) : Flow → Shared → Prop
  | mk (cs2 : List (Nat × Tok)) (e2 tk' : Nat) (h' : Heap) (hcs : cs2.map (·.1) = cs1.map (·.1) ++ (if k % 2 = 0 then [66 + k] else [])) (F : Fr g L h' m) (N : News g L h' ((ca, listOf (cs2.map nmV).toArray e2) :: r')) : CameMid g L m ca r' cs1 k s .next ⟨h', s.gens, s.drawn, tk', s.os⟩
theorem came_cut {M : Model} {A : Around} {S : Sem Flow} {Q : Flow → Shared → Prop} {E : Value → Shared → Prop} {s : Shared} {g : Heap} {L : Addr} {m : Str → Option Value} {ca : Addr} {r' : List (Addr × Obj)} {cs1 : List (Nat × Tok)} {e1 : Nat} (k : Nat) (_F : Fr g L s.heap m) (_N : News g L s.heap ((ca, listOf (cs1.map nmV).toArray e1) :: r'))
    (walk : wpAny M A S (CameMid g L m ca r' cs1 k s) E s) (next : ∀ fl s', CameMid g L m ca r' cs1 k s fl s' → Q fl s') : wpAny M A S Q E s :=
  wpAny_mono walk next fun _ _ e => e
local macro_rules | `(tactic| walk_at "eval IfExp") => `(tactic| (k_here; (rename CutMark2 => cm); clear cm; refine stopSub ?_))
local macro_rules | `(tactic| walk_at "call builtin:list.append") => `(tactic| (k_here; refine stopSub ?_))
local macro_rules | `(tactic| walk_at "callWith ref") => `(tactic| (k_here; (with_reducible show wpAny _ _ (callWith _ _ _ (backTo _ (starEach [] _)) []) _ _ _); k_dflt (refine' callWith_K0 ?k1 ?k2 ?_; (case k1 => k_in); (case k2 => k_is); k_whole)))
theorem run_ (w : World) (D : Addr) (ep : Nat) (ts : List Value) (zs : List Str) (way : Nat) (right : Bool) (tw : Tok) (rest0 : List (Addr × Obj)) (hw : way < 5) (hts : Box (StrsAre ts zs)) (hzl : zs.length = 5) (hz : ∀ z ∈ zs, Sig way z) (hD : (D, listOf ts.toArray ep) ∈ rest0) (h3 : ∀ p ∈ rest0, p.1 ≠ 306) :
  Cx w 200 1200 ((306, tabObj #[]) :: rest0) (call (.ref 316) [.ref D, .int (way : Nat) tw, .bool right]) (fun r n' => ∃ (TT D pa epD epp : Nat) (two : List Two) (R1 R2 : Row) (T : List Str) (ps : Array Value), RunPost right way zs rest0 r n' TT D pa epD epp two R1 R2 T ps) := by
  unfold Cx
  k_fill
  intro loose mean mg mb dp un gd cn cs a ccd cl outer A₀ base h₀ L m s Q E B F X N T hk hd hu hret
  obtain ⟨s1, s2, s3, s4, s5⟩ := s
  dsimp only at F N hret
  refine wpAny_call ?_
  k_dflt (refine' code_defC ?k1 ?k2 ?k3 ?k4 ?k5 ?kA ?kF ?kK ?k6 ?k7 ?k8 ?k9 ?kB ?kD ?_ ?c2 ?c3 ?c4; (case kA => exact rfl); (case kF => exact rfl); (case kK => assumption); (case k1 => k_asm); (case k2 => k_asm); (case k3 => k_asm); (case k4 => k_asm); (case k5 => k_asm); (case k6 => k_is); (case k7 => k_is); (case k8 => ktr_room); (case k9 => first | exact BindsTo.of_eq rfl | exact binds_K (by k_in) rfl (by k_is) rfl rfl rfl); (case kB => exact rfl); (case kD => decide +kernel); (case c2 => exact rfl); (case c3 => exact rfl); (case c4 => exact rfl); k_whole; intro _ _ _ _ _ _ _ N' Y' _ _ _ _; k_cells Y'; (try simp only [List.cons_append, List.nil_append] at N'); (try dsimp only))
  refine hideQ ?_
  intro QQ EE hQQ
  rename ∀ p ∈ ((306, tabObj #[]) :: rest0), p.1 < _ => l1
  obtain ⟨LL, hLL⟩ := nameIt l1
  subst hLL
  have l306 := ltN (l1 _ (.head _))
  dsimp only at l306
  have k1 : ∀ p ∈ rest0, p.1 ≠ _ + 1 := fun p hp => Nat.ne_of_lt (Nat.lt_succ_of_lt (l1 p (.tail _ hp)))
  have k2 : ∀ p ∈ rest0, p.1 ≠ _ + 1 + 1 := fun p hp => Nat.ne_of_lt (Nat.lt_succ_of_lt (Nat.lt_succ_of_lt (l1 p (.tail _ hp))))
  k_steps
  rename LL + 1 + 1 < _ ∧ _ => lR
  obtain ⟨l, hl⟩ := nameLt lR
  subst hl
  rename _ < _ ∧ _ < _ ∧ l < _ ∧ _ => lO
  obtain ⟨ro, hro⟩ := nameLt lO
  subst hro
  obtain ⟨x, hx⟩ := nameLt1 lO
  subst hx
  obtain ⟨dx, hdx⟩ := nameLt1 lO.2
  subst hdx
  rename ∀ p ∈ ((l, _) :: _), p.1 < dx => lD
  rename @LT.lt Nat _ dx x => fdx
  have f1 := ltN lR.1
  have f2 := ltN (lD _ (.head _))
  have f3 := ltN lO.1
  dsimp only at f2
  k_steps
  rename _ < _ ∧ ro < _ ∧ _ => lP
  obtain ⟨pa, hpa⟩ := nameLt lP
  subst hpa
  obtain ⟨ca0, hca⟩ := nameLt1 lP
  subst hca
  rename ro < ca0 ∧ _ => lC
  have f4 := ltN lC.1
  have f5 := ltN lP.1
  have lR1 := ltN lR.2.1
  have lR2 := ltN lR.2.2.1
  have lO1 := ltN lO.2.1
  have lO2 := ltN lO.2.2.1
  have lO3 := ltN lO.2.2.2.1
  have lO4 := ltN lO.2.2.2.2.1
  have lO5 := ltN lO.2.2.2.2.2.1
  have lP1 := ltN lP.2.1
  have lP2 := ltN lP.2.2.1
  have lP3 := ltN lP.2.2.2.1
  have lP4 := ltN lP.2.2.2.2.1
  have lP5 := ltN lP.2.2.2.2.2.1
  have lP6 := ltN lP.2.2.2.2.2.2.1
  have lP7 := ltN lP.2.2.2.2.2.2.2.1
  have lC1 := ltN lC.2.1
  have lC2 := ltN lC.2.2.1
  have lC3 := ltN lC.2.2.2.1
  have lC4 := ltN lC.2.2.2.2.1
  have lC5 := ltN lC.2.2.2.2.2.1
  have lC6 := ltN lC.2.2.2.2.2.2.1
  rename IsRange _ _ _ _ _ _ _ _ => hrg
  rename News _ _ _ (_ :: _ :: _ :: _ :: _ :: _ :: _) => nN
  obtain ⟨H, tH, n0, eH, etH, en0⟩ := nameD nN
  subst eH etH en0
  refine for_walkG (J₀ := fun m₀ i m₁ n₁ => RunJ right way zs x dx l ro pa LL H tH n0 rest0 m₀ i m₁ n₁) rfl (by k_asm) (ordR nN) (src_rangeR (n := 9) hrg (rg_small (by omega) (by omega) (by omega) (by omega)) (rg_size (by omega))) ?hj ?hl ?turn ?done
  case hj =>
    refine ⟨#[], [], 0, 0, [], [], 0, ca0, [], 0, _, _, _, _, rest0, [], rfl, mapTC rfl rfl, by assumption, by assumption, ?_, .zero, fun h => absurd h (by decide)⟩
    exact ⟨rfl, rfl, rfl, (fun _ h => nomatch h), .zero, ⟨f2, fdx, fun p hp => Nat.ne_of_lt (allLt_all lR.2.2.2 p hp), (fun _ h => nomatch h), (fun _ h => nomatch h), (fun _ h => nomatch h)⟩, .inl rfl, (fun _ h => nomatch h), fun p hp => hp, h3, fun p hp => Nat.ne_of_lt (allLt_all lO.2.2.2.2.2.2 p hp), fun p hp => Nat.ne_of_lt (allLt_all lP.2.2.2.2.2.2.2.2 p hp), fun p hp => Nat.ne_of_lt (allLt_all lC.2.2.2.2.2.2.2 p hp), k2, f4, Nat.ne_of_lt f5⟩
  case hl => exact fun i m₁ n₁ _ p hp => nomatch hp
  case turn =>
    rintro k v m₁ n₁ I oI h1 tk1 hRg hk9 ⟨tkk, rfl⟩ ⟨ps, row, ep2, ep1, rows, two, epp, ca, cs1, epc, ok, orr, vk, tv, rest, T9, rfl, rfl, hok, horr, RK, TO, _⟩ hoff F1 N1 ZZ hZZ
    have cm : CutMark := trivial
    rw [show (0 : Int) + (k : Nat) = (k : Nat) by omega]
    have nk := RK.nk
    have nc := RK.nc
    have np := RK.np
    have nr := RK.nr
    have n3 := RK.n3
    have nl := RK.K.c
    have fca := RK.fca
    have fcp := RK.fcp
    have i1 := neN (hoff _ (.head _))
    have i2 := neN (hoff _ (.tail _ (.head _)))
    have i3 := neN (hoff _ (.tail _ (.tail _ (.head _))))
    have i4 := neN (hoff _ (.tail _ (.tail _ (.tail _ (.head _)))))
    have i5 := neN (hoff _ (.tail _ (.tail _ (.tail _ (.tail _ (.head _))))))
    have i6 := neN (hoff _ (.tail _ (.tail _ (.tail _ (.tail _ (.tail _ (.head _)))))))
    have i7 := neN (hoff _ (.tail _ (.tail _ (.tail _ (.tail _ (.tail _ (.tail _ (.head _))))))))
    have i8 := neN (hoff _ (.tail _ (.tail _ (.tail _ (.tail _ (.tail _ (.tail _ (.tail _ (.head _)))))))))
    have i9 := neN (hoff _ (.tail _ (.tail _ (.tail _ (.tail _ (.tail _ (.tail _ (.tail _ (.tail _ (.head _))))))))))
    have i0 : ∀ p ∈ rest, p.1 ≠ I := fun p hp => hoff p (.tail _ (.tail _ (.tail _ (.tail _ (.tail _ (.tail _ (.tail _ (.tail _ (.tail _ hp)))))))))
    dsimp only at i1 i2 i3 i4 i5 i6 i7 i8 i9
    k_steps
    obtain ⟨G, hG, M0, hM⟩ := nameFr F1
    rename _ = Data.cell (some (Value.int (k : Nat) tkk)) => hok1
    obtain ⟨ok1, hok2⟩ := nameO hok1
    subst hG hok2
    unfold IfM
    refine wpAny_mono (E := fun _ _ => False) (Q := fun f s' => Box (RunM right way zs x dx l ro LL H tH n0 rest0 G I oI ok1 orr k M0 T9 pa ⟨s1, s2, s3, s4, s5⟩ f s')) ?_ ?_ (fun _ _ h => h.elim)
    · generalize hMM : RunM right way zs x dx l ro LL H tH n0 rest0 G I oI ok1 orr k M0 T9 pa ⟨s1, s2, s3, s4, s5⟩ = MM
      revert MM
      refine idG ?_
      intro MM hMM
      have hzk : ∀ hk5 : k < 5, Sig way (zs.getD k "") := fun hk5 => hz _ (getD_mem (by omega))
      have hDr := RK.sub _ hD
      have hx9 : (zs.getD k "").cps.toList.length ≤ 10000 := by
        by_cases hk5 : k < 5
        · have := (hzk hk5).1
          omega
        · rw [List.getD_eq_getElem?_getD, List.getElem?_eq_none (by omega)]
          exact (by decide : (("" : Str).cps.toList.length ≤ 10000))
      have hd9 : zs.length ≤ 100 := by omega
      have cm2 : CutMark2 := trivial
      subst hM
      k_steps
      · rename (k : Int) < 5 => hk5
        replace hk5 : k < 5 := by omega
        obtain ⟨hs1, hs2, hs3⟩ := hand_sg (hzk hk5)
        rename Fr G LL _ _ => kF
        subst hMM
        exact ⟨⟨rfl, _, _, ps, row, ep2, ep1, rows, two, epp, ca, cs1, epc, rest, _, _, rfl, Eq.mp (congrArg (Fr G LL _) mapT) kF, by k_asm, by rw [midR, if_pos hk5, midP, if_pos hk5]; exact RK, TO.lo hk5 hzl hz, okT_wr hs1 (by omega), fun h => by omega, i0, i7⟩⟩
      · rename ¬ ((k : Int) < 5) => hk5
        replace hk5 : 5 ≤ k := by omega
        have IW := runW_inv (right := right) (ws_le hz) k (by omega)
        obtain ⟨ia, ib, R, hab⟩ := row_two IW hk5 hk9
        have hrw := RK.hrow
        rw [hab] at hrw
        obtain ⟨ta, tb, row', rfl, hrow'⟩ := row_shape hrw
        have hrl : row'.length ≤ 90 := by
          have h1 := congrArg List.length hrow'
          have h2 := IW.len
          rw [hab] at h2
          simp only [List.length_map, List.length_cons] at h1 h2
          split at h2 <;> omega
        have hia := IW.lt ia (by rw [hab]; exact .head _)
        have hib := IW.lt ib (by rw [hab]; exact .tail _ (.head _))
        have n97a : Nm (97 + ia) := nm_lo (by omega)
        have n97b : Nm (97 + ib) := nm_lo (by omega)
        unfold ExprM
        k_steps
        unfold StopS
        k_dflt (refine' kmk_slice_lit (its := List.toArray _) ?c2F ?c2N ?c2l ?c2p ?c2q ?c2e ?_ ?c2s ?c2t ?c2z; (case c2F => k_asm); (case c2N => k_asm); (case c2l => exact News.isList (by k_asm) (by k_mem)); (case c2p => kmk_part); (case c2q => kmk_part); (case c2e => first | exact congrArg Array.toList (slice_take _ 5) | exact congrArg Array.toList (slice_take _ 2)); (case c2s => with_unfolding_all rfl); (case c2t => kmk_pure); (case c2z => (rw [sizeLine_eq]; simp only [List.size_toArray, List.length_map, List.length_cons]; omega)))
        intro _ _ _ _ _
        try k_sweep
        k_steps
        rename News _ _ _ ((_, listOf #[nmV (97 + ia, ta), nmV (97 + ib, tb)] 0) :: _) => nS
        refine comp_walk0 rfl (by k_asm) nS (src_list (vs := [nmV (97 + ia, ta), nmV (97 + ib, tb)]) (nn := 0) nS (.head _)) (fun p hp => by rw [List.mem_singleton.mp hp]; exact .head _) (by decide) rfl (fun i ys => ∃ t u, ys = [Value.int (ia : Nat) t, Value.int (ib : Nat) u].take i) ⟨0, 0, rfl⟩ (show 2 ≤ 16777216 by decide) ?_ ?_
        · rintro i v ys I2 D2 C2 oI2 oC2 h2 tk2 hi2 hv2 hlen2 ⟨t2, u2, rfl⟩ off2 F2 N2 ⟨mc2, hns2⟩ ZZ hZZ
          have hi3 : i = 0 ∨ i = 1 := by
            have : i < 2 := hi2
            omega
          rcases hi3 with rfl | rfl
          · obtain rfl : nmV (97 + ia, ta) = v := Option.some.inj hv2
            k_steps
            exact ⟨_, _, _, _, rfl, by k_asm, by k_asm, by k_asm, _, 0, rfl⟩
          · obtain rfl : nmV (97 + ib, tb) = v := Option.some.inj hv2
            k_steps
            exact ⟨_, _, _, _, rfl, by k_asm, by k_asm, by k_asm, _, _, rfl⟩
        · rintro ys D2 h2 tk2 hlen2 ⟨t2, u2, rfl⟩ hD2 F2 N2
          dsimp only
          k_steps
          have d2p := ltN (hD2 _ (.tail _ (.tail _ (.tail _ (.tail _ (.tail _ (.tail _ (.tail _ (.head _)))))))))
          dsimp only at d2p
          refine StopS.go ?_
          refine append_K (by k_asm) (ordP N2) (Upd.head ?hpa) ?_ ?hpz
          case hpz =>
            have h1 := congrArg List.length RK.htwo
            have h2 := IW.pl
            simp only [List.length_map] at h1
            simp only [List.size_toArray, List.length_map]
            rw [sizeLine_eq]
            omega
          case hpa =>
            intro p hp
            simp only [List.mem_cons] at hp
            rcases hp with rfl | rfl | rfl | rfl | rfl | rfl | rfl | rfl | rfl | rfl | hp
            · exact i6.symm
            · exact neN (by dsimp only; omega)
            · exact neN (by dsimp only; omega)
            · exact neN (by dsimp only; omega)
            · exact neN (by dsimp only; omega)
            · exact neN (by dsimp only; omega)
            · exact neN (by dsimp only; omega)
            · exact fcp
            · exact neN (by dsimp only; omega)
            · exact neN (by dsimp only; omega)
            · exact np p hp
          intro h3 F3 N3
          rw [List.push_toArray, show twos two ++ [Value.ref D2] = twos (two ++ [⟨D2, ia, ib, t2, u2, 2⟩]) by simp [twos]] at N3
          replace N3 := ordQ N3
          obtain ⟨ra, hra, hva⟩ := RK.rok.a ia (by rw [hab]; exact .head _)
          obtain ⟨rb, hrb, hvb⟩ := RK.rok.a ib (by rw [hab]; exact .tail _ (.head _))
          k_steps
          have hrr := RK.K.hr
          have hrl2 : rows.length ≤ 20 := by have := RK.rok.d; omega
          unfold StopC
          refine' Cx.use (getM w x dx l H tH n0 ep1 rows _ (up (97 + ia)) _ (up_nm n97a) (by k_mem) (by k_mem) (by k_mem) (fun r hr => by simp only [List.mem_cons, hrr r hr, or_true]) RK.K.nm (by omega)) (by k_asm) (by k_asm) (by k_asm) N3 (by k_asm) (by first | exact rfl | assumption) (by ktr_room) (by ktr_units) ?_
          rintro r4 n4 h4 tk4 ⟨rfl, rfl⟩ F4 N4
          rw [findR_congr (b := 97 + ia) (by rw [up_lo (by omega), lo_up (by omega), lo_lo]), hra]
          dsimp only [valR]
          rw [hva]
          k_steps
          unfold StopC
          refine' Cx.use (getM w x dx l H tH n0 ep1 rows _ (97 + ib) _ n97b (by k_mem) (by k_mem) (by k_mem) (fun r hr => by simp only [List.mem_cons, hrr r hr, or_true]) RK.K.nm (by omega)) (by k_asm) (by k_asm) (by k_asm) N4 (by k_asm) (by first | exact rfl | assumption) (by ktr_room) (by ktr_units) ?_
          rintro r5 n5 h5 tk5 ⟨rfl, rfl⟩ F5 N5
          rw [hrb]
          dsimp only [valR]
          rw [hvb]
          obtain ⟨p1, p2, p3, p4, _, _⟩ := TO.pre hz hk9 hab
          have pl : (T9.getD ia "").length + (T9.getD ib "").length = (T9.getD ia "" ++ T9.getD ib "").length := by rw [Str.length_append]
          have px : (T9.getD ia "" ++ T9.getD ib "").cps.toList.length ≤ 10000 := by rw [← str_len]; omega
          k_steps
          unfold StopC
          rename News _ _ _ (_ :: (306, tabObj ps) :: _ :: _ :: _ :: _ :: _ :: _ :: _ :: _ :: (D2, _) :: _) => nN6
          have N6 := news_front (pre := [_, _, _]) (x := x) (dx := dx) (l := l) (rows := rows) nN6
          have hoth : ∀ p ∈ [(I, oI), (306, tabObj ps), (ro, listOf (List.map nmV ((97 + ia, ta) :: (97 + ib, tb) :: row')).toArray ep2)], p.1 ≠ l := by
            intro p hp
            simp only [List.mem_cons, List.not_mem_nil, or_false] at hp
            rcases hp with rfl | rfl | rfl <;> exact neN (by dsimp only; omega)
          have K0 : TabOk way x dx l rows ((pa, listOf (twos (two ++ [⟨D2, ia, ib, t2, u2, 2⟩])).toArray (epp + 1)) :: (ca, listOf (cs1.map nmV).toArray epc) :: (LL + 1 + 1, ok1) :: (LL + 1, orr) :: (D2, listOf [Value.int (ia : Nat) t2, Value.int (ib : Nat) u2].toArray 2) :: rest) := by
            refine RK.K.more ?_ (fun p hp => .tail _ (.tail _ (.tail _ (.tail _ (.tail _ hp)))))
            intro p hp
            simp only [List.mem_cons] at hp
            rcases hp with rfl | rfl | rfl | rfl | rfl | hp
            · exact neN (by dsimp only; omega)
            · exact neN (by dsimp only; omega)
            · exact neN (by dsimp only; omega)
            · exact neN (by dsimp only; omega)
            · exact neN (by dsimp only; omega)
            · exact nl p hp
          refine' Cx.use (delW w x dx l H tH n0 ep1 rows _ way (97 + ia) _ n97a (by omega) (kpre N6 K0 hoth)) (by k_asm) (by k_asm) (by k_asm) N6 (by k_asm) (by first | exact rfl | assumption) (by ktr_room) (by ktr_units) ?_
          rintro r6 n6 h6 tk6 ⟨rfl, ep6, rfl⟩ F6 N7
          replace N7 := news_back N7
          dsimp only [tabL, List.cons_append, List.nil_append] at N7
          have rok1 := RK.rok
          rw [hab] at rok1
          have hnd := IW.nd
          rw [hab] at hnd
          obtain ⟨nd1, nd2⟩ := List.nodup_cons.mp hnd
          have rok2 := rok1.del (X := 97 + ia) lo_lo nd1 hia
          k_steps
          unfold StopC
          have N8 := news_front (pre := [_, _, _]) (x := x) (dx := dx) (l := l) (rows := rows.filter fun r => lo r.c != lo (97 + ia)) N7
          refine' Cx.use (delW w x dx l H tH n0 ep6 (rows.filter fun r => lo r.c != lo (97 + ia)) _ way (up (97 + ib)) _ (up_nm n97b) (Nat.le_trans (List.length_filter_le _ _) (by omega)) (kpre N8 (K0.filter _) hoth)) (by k_asm) (by k_asm) (by k_asm) N8 (by k_asm) (by first | exact rfl | assumption) (by ktr_room) (by ktr_units) ?_
          rintro r7 n7 h7 tk7 ⟨rfl, ep7, rfl⟩ F7 N9
          replace N9 := news_back N9
          dsimp only [tabL, List.cons_append, List.nil_append] at N9
          have hub : lo (up (97 + ib)) = 97 + ib := by rw [up_lo (by omega), lo_up (by omega)]
          have rok3 := rok2.del (X := up (97 + ib)) hub (List.nodup_cons.mp nd2).1 hib
          generalize hrows2 : ((rows.filter fun r => lo r.c != lo (97 + ia)).filter fun r => lo r.c != lo (up (97 + ib))) = rows2 at N9 rok3
          k_steps
          rename News G LL _ ((I, oI) :: _) => nC
          have hcl : cs1.length ≤ 20 := by
            have := congrArg List.length RK.hcs
            simp only [List.length_map] at this
            omega
          refine comp_walkT rfl (by k_asm) nC (src_list (l := ca) (vs := cs1.map nmV) (nn := epc) nC (by k_mem)) (fun p hp => by rw [List.mem_singleton.mp hp]; k_mem) (by decide) rfl rfl rfl (fun i ys => ∃ cs' : List (Nat × Tok), ys = cs'.map nmV ∧ cs'.map (·.1) = ((cs1.take i).map (·.1)).filter (fun c => lo c != 97 + ia && lo c != 97 + ib)) ⟨[], rfl, rfl⟩ (by rw [List.length_map]; omega) ?_ ?_
          · rintro i v ys I3 D3 C3 oI3 oC3 h8 tk8 hi3 hv3 hlen3 ⟨cs', rfl, hcs'⟩ off3 F8 N8' ⟨mc3, hns3⟩ ZZ hZZ
            have hci : ∃ c t, cs1[i]? = some (c, t) ∧ v = nmV (c, t) := by
              rw [List.getElem?_map] at hv3
              obtain ⟨q, hq1, hq2⟩ := Option.map_eq_some_iff.mp hv3
              exact ⟨q.1, q.2, hq1, hq2.symm⟩
            obtain ⟨c, ct, hci, rfl⟩ := hci
            have hcn : Nm c := by
              have h1 : c ∈ cs1.map (·.1) := List.mem_map.mpr ⟨_, List.mem_of_getElem? hci, rfl⟩
              rw [RK.hcs] at h1
              obtain ⟨r, hr, rfl⟩ := List.mem_map.mp h1
              exact RK.K.nm r hr
            k_steps
            unfold StopS
            k_dflt (refine' kmk_slice_lit (its := List.toArray _) ?c3F ?c3N ?c3l ?c3p ?c3q ?c3e ?_ ?c3s ?c3t ?c3z; (case c3F => k_asm); (case c3N => k_asm); (case c3l => exact News.isList (by k_asm) (by k_mem)); (case c3p => kmk_part); (case c3q => kmk_part); (case c3e => first | exact congrArg Array.toList (slice_take _ 5) | exact congrArg Array.toList (slice_take _ 2)); (case c3s => with_unfolding_all rfl); (case c3t => kmk_pure); (case c3z => (rw [sizeLine_eq]; simp only [List.size_toArray, List.length_map, List.length_cons]; omega)))
            intro _ _ _ _ _
            try k_sweep
            k_steps
            · rename List.any _ _ = true => hany
              have hkeep : ¬ (lo c != 97 + ia && lo c != 97 + ib) = true := by
                rw [anyTwo] at hany
                intro h1
                simp only [Bool.and_eq_true, bne_iff_ne] at h1
                simp only [Bool.or_eq_true, beq_iff_eq] at hany
                rcases hany with h2 | h2
                · exact h1.1 h2.symm
                · exact h1.2 h2.symm
              rename News G _ _ (_ :: _ :: (D3, _) :: _) => nE
              refine ⟨_, _, _, _, rfl, by k_asm, fun p hp => nE p (.tail _ hp), by k_asm, cs', rfl, ?_⟩
              rw [hcs', take_map_succ hci, List.filter_append, List.filter_cons, if_neg hkeep, List.filter_nil, List.append_nil]
            · rename List.any _ _ = false => hany
              have hkeep : (lo c != 97 + ia && lo c != 97 + ib) = true := by
                rw [anyTwo] at hany
                simp only [Bool.or_eq_false_iff, beq_eq_false_iff_ne] at hany
                simp only [Bool.and_eq_true, bne_iff_ne]
                exact ⟨Ne.symm hany.1, Ne.symm hany.2⟩
              rename News G _ _ (_ :: _ :: (D3, _) :: _) => nE
              refine ⟨_, _, _, _, rfl, by k_asm, fun p hp => nE p (.tail _ hp), by k_asm, cs' ++ [(c, ct)], by rw [List.map_append]; rfl, ?_⟩
              rw [List.map_append, hcs', take_map_succ hci, List.filter_append, List.filter_cons, hkeep]
              rfl
          · rintro ys D3 h8 tk8 hlen3 ⟨cs', rfl, hcs'⟩ hD3 F8 N8'
            dsimp only
            have d3r := ltN (hD3 _ (.tail _ (.tail _ (.head _))))
            have d3i := ltN (hD3 _ (.head _))
            have d3l := ltN (hD3 _ (.tail _ (.tail _ (.tail _ (.tail _ (.tail _ (.head _)))))))
            dsimp only at d3r d3i d3l
            k_steps
            rename News G LL _ ((D3, _) :: _) => nZ
            rename Fr G LL _ _ => kF
            have d2i := ltN (hD2 _ (.tail _ (.head _)))
            have d2t := ltN (hD2 _ (.tail _ (.tail _ (.head _))))
            have d2r := ltN (hD2 _ (.tail _ (.tail _ (.tail _ (.head _)))))
            have d2k := ltN (hD2 _ (.tail _ (.tail _ (.tail _ (.tail _ (.tail _ (.tail _ (.tail _ (.tail _ (.tail _ (.head _)))))))))))
            have d32 := ltN (hD3 _ (.tail _ (.tail _ (.tail _ (.tail _ (.tail _ (.tail _ (.tail _ (.tail _ (.tail _ (.tail _ (.head _))))))))))))
            have d3p := ltN (hD3 _ (.tail _ (.tail _ (.tail _ (.tail _ (.tail _ (.tail _ (.head _))))))))
            dsimp only at d2i d2t d2r d2k d32 d3p
            have d3rest : ∀ p ∈ rest, p.1 ≠ D3 := fun p hp => Nat.ne_of_lt (hD3 p (.tail _ (.tail _ (.tail _ (.tail _ (.tail _ (.tail _ (.tail _ (.tail _ (.tail _ (.tail _ (.tail _ hp))))))))))))
            obtain ⟨hq1, hq2, hq3⟩ := hand_wr p1
            have happ : ∀ {P : Addr × Obj → Prop}, P (D2, listOf [Value.int (ia : Nat) t2, Value.int (ib : Nat) u2].toArray 2) → (∀ p ∈ rest, P p) → ∀ p ∈ (D2, listOf [Value.int (ia : Nat) t2, Value.int (ib : Nat) u2].toArray 2) :: rest, P p := by
              intro P h1 h2 p hp
              rcases List.mem_cons.mp hp with rfl | hp
              · exact h1
              · exact h2 p hp
            subst hMM
            refine ⟨⟨rfl, _, _, ps, row', _, ep7, rows2, two ++ [Two.mk D2 ia ib t2 u2 2], epp + 1, D3, cs', _, (D2, listOf [Value.int (ia : Nat) t2, Value.int (ib : Nat) u2].toArray 2) :: rest, _, _, rfl, Eq.mp (congrArg (Fr G LL _) mapCT) kF, ordU nZ, ?_, TO.up hz hk5 hk9 hab, okT_wr hq1 (by omega), ?_, happ (neN (by omega)) i0, neN (by omega)⟩⟩
            · rw [midR, if_neg (by omega), midP, if_neg (by omega), hab]
              refine ⟨hrow', by rw [List.map_append, RK.htwo]; rfl, ?_, fun i hi => IW.lt i (by rw [hab]; exact .tail _ (.tail _ hi)), rok3, ?_, RK.TB.mono fun q hq => .tail _ hq, ?_, fun p hp => .tail _ (RK.sub p hp), happ (neN (by omega)) n3, happ (neN (by omega)) nr, happ (neN (by omega)) np, happ (neN (by omega)) d3rest, happ (neN (by omega)) nk, by omega, by omega⟩
              · rw [hcs', List.length_map, List.take_length, RK.hcs, List.filter_map, ← hrows2, List.filter_filter]
                congr 1
                refine List.filter_congr fun r _ => ?_
                show (lo r.c != 97 + ia && lo r.c != 97 + ib) = _
                rw [hub, lo_lo, Bool.and_comm]
              · rw [← hrows2]
                exact ((RK.K.filter _).filter _).more (happ (neN (by omega)) nl) fun p hp => .tail _ hp
              · intro p hp
                rcases List.mem_append.mp hp with hp | hp
                · exact .tail _ (RK.two p hp)
                · rw [List.mem_singleton.mp hp]
                  exact .head _
            · intro hk8
              have hR : R = [] := by
                have h2 := IW.len
                rw [hab, hk8] at h2
                simp only [List.length_cons] at h2
                exact List.eq_nil_of_length_eq_zero (by simpa using h2)
              refine List.eq_nil_iff_forall_not_mem.mpr fun r hr => ?_
              rcases rok3.b r hr with ⟨i, hi, _⟩ | ⟨h1, _⟩
              · rw [hR] at hi
                cases hi
              · omega
    · clear RK nk nc np nr n3 nl fca fcp i7 i0 N1 F1 hoff TO
      rintro f s' ⟨rfl, h2, tk2, ps, row, ep2, ep1, rows, two, epp, ca, cs1, epc, rest, text, tt, rfl, F2, N2, RK, TO, OT, hk8, i0, i7⟩
      have nk := RK.nk
      have nc := RK.nc
      have np := RK.np
      have nr := RK.nr
      have n3 := RK.n3
      have nl := RK.K.c
      have fca := RK.fca
      have fcp := RK.fcp
      subst hM
      dsimp only
      have hmk : ∀ (o1 o2 o3 o4 o5 : Obj) {P : Nat → Prop}, P pa → P ca → P (LL + 1 + 1) → P (LL + 1) → P I → (∀ p ∈ rest, P p.1) → ∀ p ∈ (pa, o1) :: (ca, o2) :: (LL + 1 + 1, o3) :: (LL + 1, o4) :: (I, o5) :: rest, P p.1 := by
        intro o1 o2 o3 o4 o5 P a1 a2 a3 a4 a5 a6 p hp
        simp only [List.mem_cons] at hp
        rcases hp with rfl | rfl | rfl | rfl | rfl | hp
        · exact a1
        · exact a2
        · exact a3
        · exact a4
        · exact a5
        · exact a6 p hp
      have hrlen : row.length ≤ 90 := by
        have h1 := congrArg List.length RK.hrow
        have h2 := midR_len (right := right) (k := k) hz hk9
        simp only [List.length_map] at h1
        omega
      have hpc : Par k rows row := by
        rcases Nat.mod_two_eq_zero_or_one k with hpar | hpar
        · exact .even hpar (RK.rok.noneE RK.hlt hpar) (row_ok (way := way) RK.hrow RK.hlt (by omega) RK.rok)
        · obtain ⟨r0, hyes, hr0v⟩ := RK.rok.c hpar
          exact .odd hpar r0 hyes hr0v (row_okO (way := way) RK.hrow RK.hlt (by omega) RK.rok)
      k_steps
      unfold StopC
      rename News G LL _ _ => nA
      replace nA := ordL nA
      refine' Cx.use (laid w x dx l ro H tH n0 ep1 ep2 rows ps _ row way k _ _ _ text right hk9 hw (RK.K.more (hmk _ _ _ _ _ (P := fun a => a ≠ l) (neN (by omega)) (neN (by omega)) (neN (by omega)) (neN (by omega)) (neN (by omega)) nl) (fun p hp => .tail _ (.tail _ (.tail _ (.tail _ (.tail _ hp)))))) (by omega) f3 (hmk _ _ _ _ _ (P := fun a => a ≠ ro) (neN (by omega)) (neN (by omega)) (neN (by omega)) (neN (by omega)) (neN (by omega)) nr) (hmk _ _ _ _ _ (P := fun a => a ≠ 306) (neN (by omega)) (neN (by omega)) (neN (by omega)) (neN (by omega)) (neN (by omega)) n3) (Nat.le_trans RK.rok.d (by omega)) OT hpc (RK.TB.mono fun q hq => .tail _ (.tail _ (.tail _ (.tail _ (.tail _ hq))))) hrlen) (by k_asm) (by k_asm) (by k_asm) nA (by k_asm) (by first | exact rfl | assumption) (by ktr_room) (by ktr_units) ?_
      rintro r9 n9 h9 tk9 ⟨rowsN, DL, v1, v2, ep3, ep4, epT, pt, ps', rest', hf, rfl, rfl, LO⟩ F9 N9
      obtain ⟨v1s, ta, tb, rfl, rfl, hv1, hv2, hF⟩ := hf.vals
      dsimp only [tabL, List.cons_append, List.nil_append] at N9
      have KP := laid_keep (hd := [_, _, _, _, _, _]) N9 LO hok1 hRg np nc nk i0
      have N10 := laid_news (as := [pa, ca, LL + 1 + 1, I]) N9 LO
      have hdc := three_names N10 (.head _) (.tail _ (.tail _ (.tail _ (.tail _ (.tail _ (.tail _ (.tail _ (.head _))))))))
      clear N9 LO nA
      generalize apartL [pa, ca, LL + 1 + 1, I] rest' = rest2 at KP N10
      have nk2 := KP.nk
      have nc2 := KP.nc
      have np2 := KP.np
      have nr2 := KP.nr
      have n32 := KP.n3
      have ni2 := KP.ni
      have nl2 := KP.K.c
      have hokv : OkV text := OT.1
      have hokh : OkV ("-" : Str) := (okT_hy way).1
      have hokw : OkV v1s := by
        rcases Nat.mod_two_eq_zero_or_one k with hpar | hpar
        · rw [hv2 hpar]; exact OT.1
        · rw [hv1 hpar]; exact (okT_hy way).1
      clear hokh
      have cm2 : CutMark2 := trivial
      k_steps
      unfold StopS
      refine ifx_cut v1s ?_ ?_
      · rcases Nat.mod_two_eq_zero_or_one k with hpar | hpar
        · rw [hv2 hpar]
          k_steps
          exact .mk _ _
        · rw [hv1 hpar]
          k_steps
          exact .mk _ _
      rintro _ _ ⟨t4, tk4⟩
      have cm : CutMark := trivial
      k_steps
      rename News G LL _ (_ :: (DL, _) :: _) => nA
      rename Fr G LL _ _ => kF
      refine came_cut k kF (ordV nA) ?_ ?_
      · refine wpAny_If ?_
        rcases Nat.mod_two_eq_zero_or_one k with hpar | hpar
        · k_steps
          refine StopS.go ?_
          refine append_K (by k_asm) (ordV nA) (Upd.head ?hca) ?_ ?hsz
          case hsz =>
            have h1 := congrArg List.length RK.hcs
            have h2 := RK.rok.d
            simp only [List.length_map] at h1
            simp only [List.size_toArray, List.length_map]
            rw [sizeLine_eq]
            omega
          case hca =>
            intro p hp
            simp only [List.mem_cons] at hp
            rcases hp with rfl | rfl | rfl | rfl | rfl | rfl | rfl | rfl | rfl | hp
            · exact Ne.symm i7
            · exact neN (by dsimp only; omega)
            · exact neN (by dsimp only; omega)
            · exact neN (by dsimp only; omega)
            · exact neN (by dsimp only; omega)
            · exact neN (by dsimp only; omega)
            · exact Ne.symm fcp
            · exact neN (by dsimp only; omega)
            · exact neN (by dsimp only; omega)
            · exact nc2 p hp
          intro h10 F10 N11
          rw [push_nm] at N11
          k_steps
          exact ⟨cs1 ++ [(66 + k, _)], _, _, _, by rw [List.map_append, if_pos hpar]; rfl, by k_asm, N11⟩
        · k_steps
          exact ⟨cs1, _, _, _, by rw [if_neg (by omega), List.append_nil], by k_asm, ordV nA⟩
      rintro _ _ ⟨cs2, e2, tk5, h10, hcs2, F10, N11⟩
      have N12 := ordW N11
      clear N11 nA kF
      dsimp only
      k_steps
      have hn2 : ∀ q ∈ cs2, Nm q.1 := by
        intro q hq
        have h1 : q.1 ∈ cs2.map (·.1) := List.mem_map.mpr ⟨q, hq, rfl⟩
        rw [hcs2, RK.hcs] at h1
        rcases List.mem_append.mp h1 with h1 | h1
        · obtain ⟨r, hr, e⟩ := List.mem_map.mp h1
          rw [← e]
          exact RK.K.nm r hr
        · split at h1
          · rw [List.mem_singleton.mp h1]
            exact nm_hy hk9
          · cases h1
      have hcl2 : cs2.length ≤ 30 := by
        have h1 := congrArg List.length hcs2
        have h2 := congrArg List.length RK.hcs
        have h3 := RK.rok.d
        simp only [List.length_map, List.length_append] at h1 h2
        split at h1 <;> simp only [List.length_cons, List.length_nil] at h1 <;> omega
      refine comp_walk0 rfl (by k_asm) N12 (src_list (l := ca) (vs := cs2.map nmV) (nn := e2) N12 (by k_mem)) (fun p hp => by rw [List.mem_singleton.mp hp]; k_mem) (by decide) rfl (fun i ys => ∃ cs' : List (Nat × Tok), ys = cs'.map nmV ∧ cs'.map (·.1) = ((cs2.take i).map (·.1)).filter (fun c => c != 65 + k)) ⟨[], rfl, rfl⟩ (by rw [List.length_map]; omega) ?_ ?_
      · rintro i v ys I3 D3 C3 oI3 oC3 h8 tk8 hi3 hv3 hlen3 ⟨cs', rfl, hcs'⟩ off3 F8 N8' ⟨mc3, hns3⟩ ZZ hZZ
        have hci : ∃ c t, cs2[i]? = some (c, t) ∧ v = nmV (c, t) := by
          rw [List.getElem?_map] at hv3
          obtain ⟨q, hq1, hq2⟩ := Option.map_eq_some_iff.mp hv3
          exact ⟨q.1, q.2, hq1, hq2.symm⟩
        obtain ⟨c, ct, hci, rfl⟩ := hci
        k_steps
        · rename (_ != _) = true => hb
          rw [chr_bne] at hb
          refine ⟨_, _, _, _, rfl, by k_asm, by k_asm, by k_asm, cs' ++ [(c, ct)], by rw [List.map_append]; rfl, ?_⟩
          rw [List.map_append, hcs', take_map_succ hci, List.filter_append, List.filter_cons, hb]
          rfl
        · rename (_ != _) = false => hb
          rw [chr_bne] at hb
          refine ⟨_, _, _, _, rfl, by k_asm, by k_asm, by k_asm, cs', rfl, ?_⟩
          rw [hcs', take_map_succ hci, List.filter_append, List.filter_cons, hb]
          simp
      · rintro ys D3 h8 tk8 hlen3 ⟨cs', rfl, hcs'⟩ hD3 F8 N8'
        dsimp only
        have hcl3 : cs'.length ≤ 100 := by
          have h1 := congrArg List.length hcs'
          have h2 := List.length_filter_le (fun c => c != 65 + k) ((cs2.take (cs2.map nmV).length).map (·.1))
          simp only [List.length_map, List.length_take] at h1 h2
          omega
        k_steps
        unfold StopC
        rename News G LL _ (_ :: _ :: (D3, _) :: _) => nA
        rename ∀ p ∈ (_ :: (D3, _) :: _), p.1 < _ => d4
        obtain ⟨D4, hD4⟩ := nameIt d4
        subst hD4
        have d4r := ltN (d4 _ (.tail _ (.tail _ (.tail _ (.tail _ (.head _))))))
        have d4i := ltN (d4 _ (.tail _ (.tail _ (.head _))))
        have d4p := ltN (d4 _ (.tail _ (.tail _ (.tail _ (.tail _ (.tail _ (.tail _ (.tail _ (.tail _ (.head _))))))))))
        dsimp only at d4r d4i d4p
        have d4rest : ∀ p ∈ rest2, p.1 ≠ D4 := fun p hp => Nat.ne_of_lt (d4 p (.tail _ (.tail _ (.tail _ (.tail _ (.tail _ (.tail _ (.tail _ (.tail _ (.tail _ (.tail _ (.tail _ (.tail _ hp)))))))))))))
        obtain ⟨cs3, hcs3, N13⟩ := ordX3 nA
        have hcame : rowsN.map (·.c) = cs3.map (·.1) := by
          rw [hcs3, hcs', List.length_map, List.take_length, hcs2, RK.hcs]
          rcases hF with ⟨hpar, R1, R2, e, e1, _, e3, _⟩ | ⟨hpar, R2, e, e3, _⟩
          · rw [e, if_pos hpar, came_even RK.rok RK.hlt hpar hk9, List.map_append, List.map_append]
            show _ ++ [R1.c] ++ [R2.c] = _
            rw [e1, e3, mixC, if_pos hpar]
          · rw [e, if_neg (by omega), List.append_nil, came_odd RK.rok RK.hlt hk9, List.map_append]
            show _ ++ [R2.c] = _
            rw [e3, mixC, if_neg (by omega)]
        have hrl9 : rowsN.length ≤ 100 := by
          have := RK.rok.d
          have := List.length_filter_le (fun r : Row => lo r.c != lo (97 + k)) rows
          rcases hF with ⟨_, R1, R2, e, _⟩ | ⟨_, R2, e, _⟩ <;> rw [e] <;> simp only [List.length_append, List.length_cons, List.length_nil] <;> omega
        have hrk := KP.K.hr
        refine' Cx.use (keys_ w x dx l H tH n0 ep3 rowsN _ (fun r hr => by simp only [List.mem_cons, hrk r hr, or_true]) KP.K.nm hrl9) (by k_asm) (by k_asm) (by k_asm) N13 (by k_asm) (by first | exact rfl | assumption) (by ktr_room) (by ktr_units) ?_
        rintro r9 n9 h11 tk11 ⟨Dk, epk, rfl, hDk, rfl⟩ F11 N14
        rw [keys_nm] at N14
        dsimp only [tabL, List.cons_append, List.nil_append] at N14
        have hnk : ∀ q ∈ rowsN.map (fun r => (r.c, r.kt)), Nm q.1 := by
          intro q hq
          obtain ⟨r, hr, rfl⟩ := List.mem_map.mp hq
          exact KP.K.nm r hr
        have hke : (rowsN.map (fun r => (r.c, r.kt))).map (·.1) = cs3.map (·.1) := by
          rw [← hcame, List.map_map]
          rfl
        clear nA
        k_steps
        refine comp_walk0 rfl (by k_asm) N14 (src_list (l := l) (vs := refsL rowsN) (nn := ep3) N14 (by k_mem)) (fun p hp => by rw [List.mem_singleton.mp hp]; k_mem) (by decide) rfl (fun i ys => ys = (rowsN.take i).map (fun r => Value.str (chr r.c) r.kt)) rfl (by rw [List.length_map]; omega) ?_ ?_
        · rintro i v ys I5 D5 C5 oI5 oC5 h12 tk12 hi5 hv5 hlen5 rfl off5 F12 N15 ⟨mc5, hns5⟩ ZZ hZZ
          obtain ⟨r, hri, rfl⟩ := refsL_get hv5
          have hr1 : (r.a, tupO r) ∈ rest2 := hrk r (List.mem_of_getElem? hri)
          k_steps
          exact ⟨_, _, _, _, rfl, by k_asm, by k_asm, by k_asm, by rw [take_map_succ hri]⟩
        · rintro ys D5 h12 tk12 hlen5 rfl hD5 F12 N15
          dsimp only
          have etk : (rowsN.take (refsL rowsN).length).map (fun r => Value.str (chr r.c) r.kt) = (rowsN.map fun r => (r.c, r.kt)).map nmV := by
            rw [List.length_map, List.take_length, keys_nm]
          rw [etk] at N15
          k_steps
          rename Fr G LL _ _ => kF
          have rokN : ∀ j, RowsOk (k + 1) (insAt j (midR right (zs.map (wt way)) k) k) (T9 ++ [text]) rowsN := fun j => by
            have := TO.tl
            simp only [List.length_append, List.length_cons, List.length_nil] at this
            rcases hF with ⟨hpar, R1, R2, rfl, e1, e2, e3, e4⟩ | ⟨hpar, R2, rfl, e3, e4⟩
            · exact RK.rok.even RK.hlt hpar hk9 (by omega) e1 e2 e3 e4
            · exact RK.rok.odd RK.hlt hpar hk9 (by omega) e3 e4
          have hg := grow_ok (rokN 0) TO (fun i hi => by
            rcases mem_insAt.mp hi with rfl | hi
            · omega
            · have := RK.hlt i hi
              omega)
          have hii := insI_eq (right := right) (g := growR way rowsN) (W := fun i => (runW right (zs.map (wt way)) (k + 1)).W.getD i 0) (k := k) RK.hrow (fun i hi => hg i (mem_insAt.mpr (.inr hi))) (hg k (mem_insAt.mpr (.inl rfl)))
          obtain ⟨hs1, hs2⟩ := run_succ right (zs.map (wt way)) k
          refine ⟨_, _, _, _, rfl, by k_asm, ordZ N15, ?_, ps', _, ep4, ep3, rowsN, two, epp, D4, cs3, 0, ok1, orr, _, _, rest2, T9 ++ [text], rfl, mapC, hok1, horr, ?_, TO, ?_⟩
          · intro p hp
            simp only [List.mem_cons] at hp
            rcases hp with rfl | rfl | rfl | rfl | rfl | rfl | rfl | rfl | rfl | hp
            · exact neN (by dsimp only; omega)
            · exact neN (by dsimp only; omega)
            · exact neN (by dsimp only; omega)
            · exact neN (by dsimp only; omega)
            · exact neN (by dsimp only; omega)
            · exact neN (by dsimp only; omega)
            · exact neN (by dsimp only; omega)
            · exact neN (by dsimp only; omega)
            · exact neN (by dsimp only; omega)
            · exact ni2 p hp
          · refine ⟨by rw [insAt_map, RK.hrow, hs1, insAt_map, hii], by rw [hs2]; exact RK.htwo, hcame.symm, (runW_inv (right := right) (ws_le hz) (k + 1) (by omega)).lt, by rw [hs1]; exact rokN _, KP.K, KP.TB, fun p hp => KP.sub _ (RK.two p hp), fun p hp => KP.sub _ (RK.sub p hp), n32, nr2, np2, d4rest, nk2, by omega, by omega⟩
          · intro h9'
            have hk : k = 8 := by omega
            have tl := TO.tl
            simp only [List.length_append, List.length_cons, List.length_nil] at tl
            rcases hF with ⟨hpar, R1, R2, e, e1, e2, e3, e4⟩ | ⟨hpar, _⟩
            rotate_left
            · omega
            refine ⟨R1, R2, by rw [e, hk8 hk]; rfl, by omega, e2, by omega, ?_⟩
            rw [e4, getD_snoc_eq]
            omega
  case done =>
    rintro m₁ n₁ h1 tk1 ⟨ps, row, ep2, ep1, rows, two, epp, ca, cs1, epc, ok, orr, vk, tv, rest, T9, rfl, rfl, hok, horr, RK, TO, hfin⟩ F1 N1
    obtain ⟨R1, R2, rfl, hr1, hr2, hr3, hr4⟩ := hfin rfl
    k_steps
    unfold StopC
    rename News _ LL _ _ => nA
    have nB := news_front (pre := [_, _]) (x := x) (dx := dx) (l := l) (rows := [R1, R2]) nA
    refine' Cx.use (items_ w x dx l H tH n0 ep1 [R1, R2] _ (by simp)) (by k_asm) (by k_asm) (by k_asm) nB (by k_asm) (by first | exact rfl | assumption) (by ktr_room) (by ktr_units) ?_
    rintro r9 n9 h9 tk9 ⟨DT, epT, rfl, hDT, rfl⟩ F9 N9
    dsimp only [tabL, List.cons_append, List.nil_append] at N9
    k_steps
    rename News _ LL _ (_ :: (DT, _) :: _) => nZ
    rename DT < _ ∧ _ => lZ
    have hz1 := ltN lZ.1
    refine StopS.go ?_
    refine append_K (by k_asm) (ordS nZ) (Upd.head ?hd) ?_ ?hz
    case hz => exact (by decide : (2 : Nat) ≤ sizeLine)
    case hd =>
      intro p hp
      rcases List.mem_cons.mp hp with rfl | hp
      · exact neN (by dsimp only; omega)
      · exact Nat.ne_of_lt (hDT p hp)
    intro h10 F10 N10
    clear nZ
    k_steps
    unfold StopC
    have nB2 := news_front (pre := [_, _]) (x := x) (dx := dx) (l := l) (rows := [R1, R2]) N10
    refine' Cx.use (items_ w x dx l H tH n0 ep1 [R1, R2] _ (by simp)) (by k_asm) (by k_asm) (by k_asm) nB2 (by k_asm) (by first | exact rfl | assumption) (by ktr_room) (by ktr_units) ?_
    rintro r9 n9 h11 tk11 ⟨DU, epU, rfl, hDU, rfl⟩ F11 N11
    dsimp only [tabL, List.cons_append, List.nil_append] at N11
    k_steps
    rename News h₀ L _ _ => kN
    refine hret _ _ _ _ ⟨_, DU, pa, epU, epp, two, R1, R2, T9, ps, ⟨rfl, .head _, .tail _ (.head _), (by have h := RK.K.hr R1 (.head _); repeat (first | exact h | refine List.Mem.tail _ ?_)), (by have h := RK.K.hr R2 (.tail _ (.head _)); repeat (first | exact h | refine List.Mem.tail _ ?_)), hr1, hr2, hr3, hr4, (by repeat (first | exact List.Mem.head _ | refine List.Mem.tail _ ?_)), (fun q hq => by have h := RK.two q hq; repeat (first | exact h | refine List.Mem.tail _ ?_)), RK.htwo, TO, (by repeat (first | exact List.Mem.head _ | refine List.Mem.tail _ ?_)), RK.TB.mono (fun q hq => by have h := hq; repeat (first | exact h | refine List.Mem.tail _ ?_)), (fun q hq => by have h := RK.sub q hq; repeat (first | exact h | refine List.Mem.tail _ ?_))⟩⟩ (by k_asm) kN
end
/- text Mn -/
theorem w_Mn : True := by
  w_top off
  exact trivial
noncomputable def ltT (p q : Int × Int) : Bool := decide (p.1 < q.1) || (decide (p.1 = q.1) && decide (p.2 < q.2))
theorem rc_ltI {prog : Program} {w : World} {A : Around} {E : Value → Shared → Prop} {s : Shared} {a b : Int} {t u : Tok} {Q : Value → Shared → Prop} (h : Q (.bool (decide (a < b))) s) : wpAny (model prog w) A (richCompare .Lt (.int a t) (.int b u)) Q E s :=
  CmpOf.ints_lt (prog := prog) (w := w) (A := A) (P := fun i v => ∃ t, v = .int (if i = 0 then a else b) t) (fun i => if i = 0 then a else b) (fun i v h => h) 0 1 _ _ _ _ _ ⟨t, rfl⟩ ⟨u, rfl⟩ h
theorem tuple_lt2 (l b : Addr) (x1 x2 y1 y2 : Int) (t1 t2 u1 u2 : Tok) (n n2 : Nat) (dd dd2 : Option Addr) (sl sl2 : Array (Option Value)) :
    Meets (Builtin.«tuple.__lt__» ⟨[.ref l, .ref b], []⟩)
      (fun A R s => s.heap.get? l = some { cls := .type "tuple", dict := dd, data := .seq #[.int x1 t1, .int x2 t2] n, slots := sl } ∧ s.heap.get? b = some { cls := .type "tuple", dict := dd2, data := .seq #[.int y1 u1, .int y2 u2] n2, slots := sl2 } ∧
        R (.ok (.ret (.bool (ltT (x1, x2) (y1, y2))))) s) :=
  .of_wp fun prog w A R s h => by
    obtain ⟨hp, g, d, tk, os⟩ := s; obtain ⟨hl, hb, h⟩ := h
    have f2 := AutoSeq1.sub_tuple_tuple
    wp_walk using wpAny_loadPart' hl, wpAny_loadPart' hb, wpAny_forIn_list _ (fun rest b s' => b.1 = none ∧ s' = ⟨hp, g, d, tk, os⟩ ∧
      (rest = [(Value.int x1 t1, Value.int y1 u1), (Value.int x2 t2, Value.int y2 u2)] ∨ (rest = [(Value.int x2 t2, Value.int y2 u2)] ∧ x1 = y1) ∨ (rest = [] ∧ x1 = y1 ∧ x2 = y2))) _
    case turn =>
      rintro ⟨y, x⟩ rest b s' ⟨hb', rfl, hz | ⟨hz, e1⟩ | ⟨hz, _⟩⟩
      · injection hz with hyx hrest
        injection hyx with hy hx
        subst hy hx hrest
        refine wpAny_bind (MeetsSeq.EqGives.int _ _ _ _ prog w _ _ _ _ ?_)
        by_cases he : x1 = y1
        · rw [show (x1 == y1) = true by simpa using he]
          wp_walk
          exact ⟨rfl, rfl, .inr (.inl ⟨rfl, he⟩)⟩
        · rw [show (x1 == y1) = false by simpa using he]
          simp only [Bool.not_false, if_true]
          refine wpAny_bind (wpAny_rule (wpAny_bind (rc_ltI ?_)))
          wp_walk
          refine ⟨_, rfl, ?_⟩
          have e : ltT (x1, x2) (y1, y2) = decide (x1 < y1) := by simp [ltT, he]
          rw [e] at h
          exact h
      · injection hz with hyx hrest
        injection hyx with hy hx
        subst hy hx hrest
        refine wpAny_bind (MeetsSeq.EqGives.int _ _ _ _ prog w _ _ _ _ ?_)
        by_cases he : x2 = y2
        · rw [show (x2 == y2) = true by simpa using he]
          wp_walk
          exact ⟨rfl, rfl, .inr (.inr ⟨rfl, e1, he⟩)⟩
        · rw [show (x2 == y2) = false by simpa using he]
          simp only [Bool.not_false, if_true]
          refine wpAny_bind (wpAny_rule (wpAny_bind (rc_ltI ?_)))
          wp_walk
          refine ⟨_, rfl, ?_⟩
          have e : ltT (x1, x2) (y1, y2) = decide (x2 < y2) := by simp [ltT, e1]
          rw [e] at h
          exact h
      · cases hz
    case fin =>
      rintro ⟨b1, b2⟩ s' ⟨hb', rfl, hz | ⟨hz, e1⟩ | ⟨hz, e1, e2⟩⟩
      · cases hz
      · cases hz
      · simp only at hb'
        subst hb'
        wp_walk
        refine ⟨_, rfl, ?_⟩
        have e : ltT (x1, x2) (y1, y2) = false := by simp [ltT, e1, e2]
        rw [e] at h
        exact h
    case h =>
      exact ⟨rfl, rfl, .inl rfl⟩
theorem rc_tup {prog : Program} {w : World} {A : Around} {E : Value → Shared → Prop} {s : Shared} {l b : Addr} {x1 x2 y1 y2 : Int} {t1 t2 u1 u2 : Tok} {n n2 : Nat} {Q : Value → Shared → Prop}
    (hl : s.heap.get? l = some { cls := .type "tuple", data := .seq #[.int x1 t1, .int x2 t2] n }) (hb : s.heap.get? b = some { cls := .type "tuple", data := .seq #[.int y1 u1, .int y2 u2] n2 }) (hu : A.units < cLine)
    (h : Q (.bool (ltT (x1, x2) (y1, y2))) s) : wpAny (model prog w) A (richCompare .Lt (.ref l) (.ref b)) Q E s :=
  richCompare_meets_room (op := .Lt) ⟨_, hl, rfl⟩ ⟨_, hb, rfl⟩ F.slot_tuple_lt F.entry_tuple_lt (F.args_tuple_lt_2 _ _) (tuple_lt2 l b x1 x2 y1 y2 t1 t2 u1 u2 n n2 _ _ _ _)
    ⟨hl, hb, show Value.bool (ltT (x1, x2) (y1, y2)) ≠ Value.notImplemented ∧ Q (.bool (ltT (x1, x2) (y1, y2))) s from ⟨(fun x => nomatch x), h⟩⟩ hu
section
variable {prog : Program} {w : World} {A : Around} {E : Value → Shared → Prop} {s : Shared} {R : Result → Shared → Prop} {I l S : Addr} {vs : List Value} {K : Heap → Prop} {lt : Nat → Nat → Bool}
/-- the place of the least, the first of its likes -/
noncomputable def bestI (lt : Nat → Nat → Bool) : Nat → Nat
  | 0 => 0
  | k + 1 => if lt (k + 1) (bestI lt k) = true then k + 1 else bestI lt k
structure KeepsK (K : Heap → Prop) (I S l : Addr) (vs : List Value) : Prop where
  on : ∀ h h', K h → (∀ b o, b ≠ I → b ≠ S → h.get? b = some o → h'.get? b = some o) → K h'
  list : ∀ h, K h → h.IsList l vs.toArray
theorem minK_loop (hh : A.handled = none) (hlI : l ≠ I) (hSI : S ≠ I) (hK : KeepsK K I S l vs)
    (cmp : ∀ i j vi vj (s : Shared) (Q E : Value → Shared → Prop), K s.heap → vs[i]? = some vi → vs[j]? = some vj → Q (.bool (lt i j)) s → wpAny (model prog w) A.in1 (richCompare .Lt vi vj) Q E s)
    (hR : ∀ v h' tk, vs[bestI lt (vs.length - 1)]? = some v → K h' → R (.ok (.ret v)) { s with heap := h', toks := tk }) :
    ∀ (r j : Nat) (h : Heap) (tk : Nat) (vb : Value) (c : Nat), vs.length - (j + 1) = r → j + 1 ≤ vs.length → h.IsListIter I l (j + 1) → K h → vs[bestI lt j]? = some vb →
      h.get? S = some (seqObj "list" #[vb, vb] c) → codeAny (model prog w) A (.builtin "min.loop" ⟨[.ref I, .none, .ref S], []⟩) R { s with heap := h, toks := tk } := by
  have hname : (toString "min" ++ toString ".loop" : String) = "min.loop" := by decide
  have W := Walks.list (prog := prog) (w := w) (A := A.in1) hh I l hlI vs.toArray
  have hsz : vs.toArray.size = vs.length := List.size_toArray ..
  intro r
  induction r with
  | zero =>
    intro j h tk vb c hr hj hit hk hvb hS
    have hin : j + 1 = vs.length := by omega
    refine codeAny_builtin PySem.F.entry_min_loop ?_
    rw [Around.under_plainId PySem.F.plain_min_loop _]
    show wpAny _ A.in1 (seqItems? (.ref S) >>= _) _ _ _
    refine wpAny_bind (wpAny_seqItems hS rfl ?_)
    show wpAny _ A.in1 (tryCatch (pyNext (.ref I)) _ >>= _) _ _ _
    refine wpAny_bind (wpAny_tryCatch (W.done _ _ _ ⟨by rw [hsz, ← hin]; exact hit, hK.list _ hk⟩ fun h' tk' hk' => ?_))
    have hS' := hk' S _ (by simpa using hSI) hS
    show wpAny _ A.in1 (updateSeq S (fun _ => #[]) >>= _) _ _ _
    refine wpAny_bind ?_
    refine wpAny_updateSeq hS' rfl (wpAny_bind (wpAny_letGo (wpAny_pure ?_)))
    refine hR vb _ _ (by rw [← hin]; exact hvb) (hK.on _ _ hk fun b o hb1 hb2 e => ?_)
    exact (Heap.get?_update_other _ _ (Ne.symm hb2)).trans (hk' b o (by simpa using hb1) e)
  | succ r ih =>
    intro j h tk vb c hr hj hit hk hvb hS
    have hlt : j + 1 < vs.length := by omega
    refine codeAny_builtin PySem.F.entry_min_loop ?_
    rw [Around.under_plainId PySem.F.plain_min_loop _]
    show wpAny _ A.in1 (seqItems? (.ref S) >>= _) _ _ _
    refine wpAny_bind (wpAny_seqItems hS rfl ?_)
    show wpAny _ A.in1 (tryCatch (pyNext (.ref I)) _ >>= _) _ _ _
    refine wpAny_bind (wpAny_tryCatch (W.item (j + 1) _ _ _ (by rw [hsz]; exact hlt) ⟨hit, hK.list _ hk⟩ fun v h' tk' hP hst' hk' => ?_))
    have hv : vs[j + 1]? = some v := by simpa using hP
    have hS' := hk' S _ (by simpa using hSI) hS
    have hk1 : K h' := hK.on _ _ hk fun b o hb1 _ e => hk' b o (by simpa using hb1) e
    show wpAny _ A.in1 (tryCatch (holding [v, v] (richCompare .Lt v vb >>= _)) _ >>= _) _ _ _
    refine wpAny_bind (wpAny_tryCatch (wpAny_holding (wpAny_bind (cmp (j + 1) (bestI lt j) v vb _ _ _ hk1 hv hvb ?_))))
    refine wpAny_bind (wpAny_holding (wpAny_truthy_bool ?_))
    refine wpAny_bind (wpAny_letGo (wpAny_pure ?_))
    cases hb : lt (j + 1) (bestI lt j) with
    | true =>
      simp only [if_true]
      refine wpAny_bind ?_
      refine wpAny_updateSeq hS' rfl (wpAny_bind (wpAny_letGo ?_))
      rw [hname]
      refine wpAny_pure ⟨plainId_quiet PySem.F.plain_min_loop _, ih (j + 1) _ _ v _ (by omega) hlt ?_ ?_ (by rw [bestI, if_pos hb]; exact hv) (get?_update_seq hS' fun _ => #[v, v])⟩
      · obtain ⟨oI, ho, r1⟩ := hst'.1
        exact ⟨oI, (Heap.get?_update_other _ _ hSI).trans ho, r1⟩
      · exact hK.on _ _ hk1 fun b o _ hb2 e => (Heap.get?_update_other _ _ (Ne.symm hb2)).trans e
    | false =>
      simp only [Bool.false_eq_true, if_false]
      refine wpAny_bind (wpAny_letGo ?_)
      rw [hname]
      exact wpAny_pure ⟨plainId_quiet PySem.F.plain_min_loop _, ih (j + 1) _ _ vb c (by omega) hlt hst'.1 hk1 (by rw [bestI, hb]; exact hvb) hS'⟩
theorem minK {Q : Value → Shared → Prop} (hh : A.handled = none) (hk0 : K s.heap) (hl : l < s.heap.objs.size)
    (hK : KeepsK K s.heap.objs.size (s.heap.objs.size + 1) l vs) (hne : 0 < vs.length)
    (cmp : ∀ i j vi vj (s : Shared) (Q E : Value → Shared → Prop), K s.heap → vs[i]? = some vi → vs[j]? = some vj → Q (.bool (lt i j)) s → wpAny (model prog w) A.in1 (richCompare .Lt vi vj) Q E s)
    (h : ∀ v h' tk, vs[bestI lt (vs.length - 1)]? = some v → K h' → Q v { s with heap := h', toks := tk }) :
    wpAny (model prog w) A (call (.builtin "min") [.ref l]) Q E s := by
  have hname : (toString "min" ++ toString ".loop" : String) = "min.loop" := by decide
  refine call_function_tree F.kind_min F.plain_min F.entry_min (F.args_min1 _) ?_
  show wpAny _ A.in1 (Builtin.Builtins.bindParams "min" ["key", "default"] 0 ⟨[], []⟩ >>= _) _ _ s
  refine wpAny_bind (wpAny_of_eq (show Builtin.Builtins.bindParams "min" ["key", "default"] 0 ⟨[], []⟩ = pure [none, none] from rfl) ?_)
  refine wpAny_bind (wpAny_pure ?_)
  refine wpAny_bind (wpAny_pyIter_list (hK.list _ hk0) ?_)
  refine wpAny_bind (wpAny_newObj_type ?_)
  rw [hname]
  refine wpAny_pure ⟨plainId_quiet F.plain_min_loop _, ?_⟩
  have hS : (s.heap.push { cls := .type "list_iterator", data := .fields #[.ref l, .int 0 0] }).objs.size = s.heap.objs.size + 1 := size_push' ..
  have hlI : l ≠ s.heap.objs.size := Nat.ne_of_lt hl
  have hSI : s.heap.objs.size + 1 ≠ s.heap.objs.size := Nat.ne_of_gt (Nat.lt_succ_self _)
  rw [hS]
  have gI : ((s.heap.push { cls := .type "list_iterator", data := .fields #[.ref l, .int 0 0] }).push (seqObj "list" #[] 0)).get? s.heap.objs.size = some { cls := .type "list_iterator", data := .fields #[.ref l, .int 0 0] } :=
    Heap.get?_push_of_some _ (Heap.get?_push_size _ rfl)
  have gS : ((s.heap.push { cls := .type "list_iterator", data := .fields #[.ref l, .int 0 0] }).push (seqObj "list" #[] 0)).get? (s.heap.objs.size + 1) = some (seqObj "list" #[] 0) := by
    rw [← hS]
    exact Heap.get?_push_size _ rfl
  have hk1 : K ((s.heap.push { cls := .type "list_iterator", data := .fields #[.ref l, .int 0 0] }).push (seqObj "list" #[] 0)) := hK.on _ _ hk0 fun b o _ _ e => Heap.get?_push_of_some _ (Heap.get?_push_of_some _ e)
  have W := Walks.list (prog := prog) (w := w) (A := A.in1) hh s.heap.objs.size l hlI vs.toArray
  have hsz : vs.toArray.size = vs.length := List.size_toArray ..
  refine codeAny_builtin PySem.F.entry_min_loop ?_
  rw [Around.under_plainId PySem.F.plain_min_loop _]
  show wpAny _ A.in1 (seqItems? (.ref _) >>= _) _ _ _
  refine wpAny_bind (wpAny_seqItems gS rfl ?_)
  show wpAny _ A.in1 (tryCatch (pyNext (.ref s.heap.objs.size)) _ >>= _) _ _ _
  refine wpAny_bind (wpAny_tryCatch (W.item 0 _ _ _ (by rw [hsz]; exact hne) ⟨⟨_, gI, rfl, rfl⟩, hK.list _ hk1⟩ fun v h' tk' hP hst' hk' => ?_))
  have hv : vs[0]? = some v := by simpa using hP
  have hS' := hk' _ _ (by simpa using hSI) gS
  have hk2 : K h' := hK.on _ _ hk1 fun b o hb1 _ e => hk' b o (by simpa using hb1) e
  show wpAny _ A.in1 (updateSeq (s.heap.objs.size + 1) (fun _ => #[v, v]) >>= _) _ _ _
  refine wpAny_bind ?_
  refine wpAny_updateSeq hS' rfl ?_
  rw [hname]
  refine wpAny_pure ⟨plainId_quiet PySem.F.plain_min_loop _, minK_loop (s := s) (vs := vs) (K := K) (lt := lt) hh hlI hSI hK cmp h _ 0 _ _ v _ rfl hne ?_ ?_ hv (get?_update_seq hS' fun _ => #[v, v])⟩
  · obtain ⟨oI, ho, r1⟩ := hst'.1
    exact ⟨oI, (Heap.get?_update_other _ _ hSI).trans ho, r1⟩
  · exact hK.on _ _ hk2 fun b o _ hb2 e => (Heap.get?_update_other _ _ (Ne.symm hb2)).trans e
end
/- text Ls -/
theorem w_Ls : True := by
  w_top off
  exact trivial
structure TupR where
  a : Addr
  p : Int
  q : Int
  t : Tok
  u : Tok
noncomputable abbrev TupR.o (r : TupR) : Obj := { cls := .type "tuple", data := .seq [Value.int r.p r.t, Value.int r.q r.u].toArray }
noncomputable abbrev refsT (rs : List TupR) : List Value := rs.map fun r => .ref r.a
noncomputable abbrev valT (r : TupR) : Int × Int := (r.p, r.q)
/-- the words of the reckoning -/
noncomputable def bitB (m k : Nat) : Bool := decide (Builtin.bitAnd (((m : Nat) : Int).fdiv (2 ^ k)) 1 = 1)
noncomputable def loadI (ws : List Nat) (m i : Nat) : List Int := ((List.range i).filter (bitB m)).map fun k => ((ws.getD k 0 : Nat) : Int)
noncomputable def fitB (m p : Nat) : Bool := decide (Builtin.bitAnd ((p : Nat) : Int) ((m : Nat) : Int) = ((p : Nat) : Int))
noncomputable def partsB (m i : Nat) : List Nat := ((List.range i).map fun j => m / 2 + 1 + j).filter (fitB m)
noncomputable def joinI (sg load : Int) (a b : Int × Int) : Int × Int := (a.1 + b.1 + load, sg * (1 + if sg * b.2 > sg * a.2 then sg * b.2 else sg * a.2))
noncomputable def waysI (sg load : Int) (best : List (Int × Int)) (m i : Nat) : List (Int × Int) := (partsB m i).map fun p => joinI sg load (best.getD p (0, 0)) (best.getD (m - p) (0, 0))
noncomputable def minI : Int × Int → List (Int × Int) → Int × Int
  | b, [] => b
  | b, a :: r => minI (if ltT a b = true then a else b) r
noncomputable def stepI (sg : Int) (ws : List Nat) (best : List (Int × Int)) (m : Nat) : List (Int × Int) :=
  match waysI sg (loadI ws m 5).sum best m (m - (m / 2 + 1)) with
  | [] => best
  | a :: r => best.set m (minI a r)
noncomputable def bestS (sg : Int) (ws : List Nat) : Nat → List (Int × Int)
  | 0 => List.replicate 32 (0, 0)
  | n + 1 => stepI sg ws (bestS sg ws n) (n + 1)
theorem stepI_len {sg : Int} {ws : List Nat} {best : List (Int × Int)} {m : Nat} : (stepI sg ws best m).length = best.length := by
  unfold stepI
  split
  · rfl
  · rw [List.length_set]
theorem bestS_len {sg : Int} {ws : List Nat} : ∀ n, (bestS sg ws n).length = 32
  | 0 => rfl
  | n + 1 => by rw [bestS, stepI_len, bestS_len n]
theorem loadI_succ {ws : List Nat} {m i : Nat} : loadI ws m (i + 1) = loadI ws m i ++ (if bitB m i = true then [((ws.getD i 0 : Nat) : Int)] else []) := by
  unfold loadI
  rw [List.range_succ, List.filter_append, List.map_append, List.filter_cons, List.filter_nil]
  split <;> rfl
theorem partsB_succ {m i : Nat} : partsB m (i + 1) = partsB m i ++ (if fitB m (m / 2 + 1 + i) = true then [m / 2 + 1 + i] else []) := by
  unfold partsB
  rw [List.range_succ, List.map_append, List.filter_append, List.map_cons, List.map_nil, List.filter_cons, List.filter_nil]
theorem waysI_succ {sg load : Int} {best : List (Int × Int)} {m i : Nat} : waysI sg load best m (i + 1) = waysI sg load best m i ++ (if fitB m (m / 2 + 1 + i) = true then [joinI sg load (best.getD (m / 2 + 1 + i) (0, 0)) (best.getD (m - (m / 2 + 1 + i)) (0, 0))] else []) := by
  unfold waysI
  rw [partsB_succ, List.map_append]
  split <;> rfl
theorem intsAre_snoc : ∀ {vs : List Value} {xs : List Int} {x : Int} {t : Tok}, IntsAre vs xs → IntsAre (vs ++ [.int x t]) (xs ++ [x])
  | _, _, _, _, .nil => .cons _ _ .nil
  | _, _, _, _, .cons y t r => .cons y t (intsAre_snoc r)
/-- the place of the least is the least -/
theorem minI_best (a : Int × Int) : ∀ (r : List (Int × Int)) (k : Nat), k ≤ r.length → ((a :: r).getD (bestI (fun i j => ltT ((a :: r).getD i (0, 0)) ((a :: r).getD j (0, 0))) k) (0, 0)) = minI a (r.take k)
  | r, 0, _ => by rw [bestI, List.take_zero]; rfl
  | r, k + 1, h => by
    have ih := minI_best a r k (by omega)
    have hk : r[k]? = some (r.getD k (0, 0)) := by
      rw [List.getD_eq_getElem?_getD, List.getElem?_eq_getElem (by omega)]
      rfl
    have e1 : (a :: r).getD (k + 1) (0, 0) = r.getD k (0, 0) := rfl
    have e2 : ∀ (l : List (Int × Int)) (b c : Int × Int), minI b (l ++ [c]) = if ltT c (minI b l) = true then c else minI b l := by
      intro l
      induction l with
      | nil => intro b c; rfl
      | cons x l ihl => intro b c; rw [List.cons_append, minI, minI, ihl]
    rw [bestI, ih, e1, List.take_add_one, hk, Option.toList_some, e2]
    split <;> rename_i hc
    · rw [e1]
    · exact ih
theorem bestI_le (lt : Nat → Nat → Bool) : ∀ k, bestI lt k ≤ k
  | 0 => Nat.le_refl _
  | k + 1 => by
    rw [bestI]
    split
    · exact Nat.le_refl _
    · exact Nat.le_succ_of_le (bestI_le lt k)
theorem sgn_mul {sg x : Int} (h : sg = 1 ∨ sg = -1) : IntMulOk sg x := .of_left (by rcases h with rfl | rfl <;> decide)
theorem sh3 {x1 x2 x3 : Str} {a1 a2 a3 b1 b2 b3 : Option Value} {m : Str → Option Value} : (fun y => if y = x1 then b1 else if y = x2 then b2 else if y = x3 then b3 else if y = x1 then a1 else if y = x2 then a2 else if y = x3 then a3 else m y) = fun y => if y = x1 then b1 else if y = x2 then b2 else if y = x3 then b3 else m y := by
  funext y
  by_cases h1 : y = x1
  · simp only [if_pos h1]
  · by_cases h2 : y = x2
    · simp only [if_neg h1, if_pos h2]
    · by_cases h3 : y = x3
      · simp only [if_neg h1, if_neg h2, if_pos h3]
      · simp only [if_neg h1, if_neg h2, if_neg h3]
theorem sh1 {x1 x2 x3 : Str} {a1 a2 a3 b3 : Option Value} {m : Str → Option Value} (h13 : x1 ≠ x3) (h23 : x2 ≠ x3) : (fun y => if y = x3 then b3 else if y = x1 then a1 else if y = x2 then a2 else if y = x3 then a3 else m y) = fun y => if y = x1 then a1 else if y = x2 then a2 else if y = x3 then b3 else m y := by
  funext y
  by_cases h3 : y = x3
  · subst h3
    rw [if_pos rfl, if_neg (Ne.symm h13), if_neg (Ne.symm h23), if_pos rfl]
  · rw [if_neg h3]
    by_cases h1 : y = x1
    · rw [if_pos h1, if_pos h1]
    · rw [if_neg h1, if_neg h1]
      by_cases h2 : y = x2
      · rw [if_pos h2, if_pos h2]
      · rw [if_neg h2, if_neg h2, if_neg h3, if_neg h3]
theorem sh5 {x1 x2 x3 x4 x5 : Str} {a1 a2 a3 a4 a5 b1 b2 b3 b4 b5 : Option Value} {m : Str → Option Value} : (fun y => if y = x1 then b1 else if y = x2 then b2 else if y = x3 then b3 else if y = x4 then b4 else if y = x5 then b5 else if y = x1 then a1 else if y = x2 then a2 else if y = x3 then a3 else if y = x4 then a4 else if y = x5 then a5 else m y) = fun y => if y = x1 then b1 else if y = x2 then b2 else if y = x3 then b3 else if y = x4 then b4 else if y = x5 then b5 else m y := by
  funext y
  by_cases h1 : y = x1
  · simp only [if_pos h1]
  · by_cases h2 : y = x2
    · simp only [if_neg h1, if_pos h2]
    · by_cases h3 : y = x3
      · simp only [if_neg h1, if_neg h2, if_pos h3]
      · by_cases h4 : y = x4
        · simp only [if_neg h1, if_neg h2, if_neg h3, if_pos h4]
        · by_cases h5 : y = x5
          · simp only [if_neg h1, if_neg h2, if_neg h3, if_neg h4, if_pos h5]
          · simp only [if_neg h1, if_neg h2, if_neg h3, if_neg h4, if_neg h5]
theorem map5g {m : Str → Option Value} {x1 x2 x3 x4 x5 : Str} {a1 a2 a3 a4 a5 : Option Value} (h1 : m x1 = a1) (h2 : m x2 = a2) (h3 : m x3 = a3) (h4 : m x4 = a4) (h5 : m x5 = a5) : m = fun y => if y = x1 then a1 else if y = x2 then a2 else if y = x3 then a3 else if y = x4 then a4 else if y = x5 then a5 else m y := by
  funext y
  by_cases e1 : y = x1
  · rw [if_pos e1, e1, h1]
  · rw [if_neg e1]
    by_cases e2 : y = x2
    · rw [if_pos e2, e2, h2]
    · rw [if_neg e2]
      by_cases e3 : y = x3
      · rw [if_pos e3, e3, h3]
      · rw [if_neg e3]
        by_cases e4 : y = x4
        · rw [if_pos e4, e4, h4]
        · rw [if_neg e4]
          by_cases e5 : y = x5
          · rw [if_pos e5, e5, h5]
          · rw [if_neg e5]
section
variable {prog : Program} {w : World} {A : Around} {E : Value → Shared → Prop} {s : Shared} {h₀ : Heap} {L : Addr} {m : Str → Option Value} {news : List (Addr × Obj)}
theorem mulList {l : Addr} {vs : List Value} {x : Int} {u : Tok} {Q : Value → Shared → Prop} (Fm : Fr h₀ L s.heap m) (N : News h₀ L s.heap news) (hl : s.heap.IsList l vs.toArray) (hlo : -(2 ^ 63 : Int) ≤ x) (hhi : x < 2 ^ 63) (hsz : vs.length * x.toNat ≤ 2 ^ 24)
    (h : ∀ D h', Fr h₀ L h' m → News h₀ L h' ((D, listOf (List.replicate x.toNat vs).flatten.toArray 0) :: news) → (∀ p ∈ news, p.1 < D) → Q (.ref D) { s with heap := h' }) : wpAny (model prog w) A (binaryOp .Mult (.ref l) (.int x u)) Q E s := by
  obtain ⟨⟨cls, d, data, sl⟩, ho, hcl, k, hd⟩ := id hl
  simp only at hcl hd
  subst hcl hd
  have hsz' : vs.toArray.size * x.toNat ≤ 2 ^ 24 := by simpa using hsz
  refine wpAny_binaryOp_repeat_ref (T := "list") (U := "int") (by decide) ⟨_, ho, rfl⟩ (fun s' => typeIs_int s' x u) noFill_list_mul F.fills_int_mul F.slot_int_rmul repeat_list F.slot_int_index.lookup
    (call_meets F.slot_int_rmul (typeIs_int s x u) F.entry_int_rmul (F.args_int_rmul_2 _ _) (lm_int_rmul_list_any x u l vs.toArray k d sl)
      ⟨ho, rfl, ⟨_, ho, rfl⟩, call_meets F.slot_list_mul ⟨_, ho, rfl⟩ F.entry_list_mul (F.args_list_mul_2 _ _)
        (lm_list_mul_any l vs.toArray k d sl x u (by simp [Builtin.List.listFitsIndex]; omega) (by omega) (by simp [Builtin.List.listTooLong, sizeLine]; omega))
        ⟨ho, ?_⟩⟩)
  have N' := News.push Fm N { cls := Value.type "list", data := Data.seq (List.foldl (fun x1 x2 => x1 ++ x2) #[] (List.replicate (if vs.toArray.isEmpty = true then 0 else x.toNat) vs.toArray)) }
  rw [listMul_foldl_if] at N'
  rw [listMul_foldl_if]
  exact h _ _ (Fm.push _) N' (fun p hp => Heap.lt_size (N p hp).1)
theorem neNil {a b : Addr} {vs : List Value} {n n' : Nat} {Q : Value → Shared → Prop} (N : News h₀ L s.heap news) (ha : (a, listOf vs.toArray n) ∈ news) (hb : (b, listOf #[] n') ∈ news) (hu : A.units + 64 < cLine)
    (h : ∀ v, v = !vs.isEmpty → Q (.bool v) s) : wpAny (model prog w) A (compareOp .NotEq (.ref a) (.ref b)) Q E s := by
  match vs with
  | [] =>
    refine ne_dataH (da := .list []) (db := .list []) (reads_newData (ys := []) ⟨_, (N _ ha).1, rfl, n, rfl⟩ .nil) (reads_newData (ys := []) ⟨_, (N _ hb).1, rfl, n', rfl⟩ .nil) (by decide) (by decide) hu ?_
    simpa [PyData.eqv, PyData.eqvAll] using h false rfl
  | v :: r =>
    exact PySem.EqBoolInt.of_rcne (SeqAt.RcNeAt.lists_lengths ⟨_, (N _ ha).1, rfl, n, rfl⟩ ⟨_, (N _ hb).1, rfl, n', rfl⟩ (by simp) (by omega)) (h true rfl)
/-- the least of a list of pairs -/
theorem minT {l : Addr} {ep : Nat} {ws : List TupR} {a : TupR} {Q : Value → Shared → Prop} (hh : A.handled = none) (F : Fr h₀ L s.heap m) (N : News h₀ L s.heap news) (hm : (l, listOf (refsT (a :: ws)).toArray ep) ∈ news) (hws : ∀ r ∈ a :: ws, (r.a, r.o) ∈ news) (hu : A.in1.units < cLine)
    (h : ∀ r h' tk', r ∈ a :: ws → valT r = minI (valT a) (ws.map valT) → Fr h₀ L h' m → News h₀ L h' news → Q (.ref r.a) { s with heap := h', toks := tk' }) :
    wpAny (model prog w) A (call (.builtin "min") [.ref l]) Q E s := by
  have hL : L < s.heap.objs.size := F.ns.lt
  have hz : ∀ b : Nat, s.heap.objs.size ≤ b → h₀.get? b = none := fun b hb => Heap.get?_none_of_le (Nat.le_trans F.above (Nat.le_trans (Nat.le_of_lt hL) hb))
  have hn : ∀ p ∈ news, p.1 < s.heap.objs.size := fun p hp => Heap.lt_size (N p hp).1
  refine minK (K := fun h => Fr h₀ L h m ∧ News h₀ L h news) (vs := refsT (a :: ws)) (lt := fun i j => ltT (((a :: ws).map valT).getD i (0, 0)) (((a :: ws).map valT).getD j (0, 0))) hh ⟨F, N⟩ (hn _ hm) ⟨?_, ?_⟩ (by simp) ?_ ?_
  · rintro h1 h2 ⟨F1, N1⟩ hk
    have nI : ∀ b : Nat, b < s.heap.objs.size → b ≠ s.heap.objs.size ∧ b ≠ s.heap.objs.size + 1 := fun b hb => ⟨Nat.ne_of_lt hb, Nat.ne_of_lt (Nat.lt_succ_of_lt hb)⟩
    obtain ⟨oL, es, en, hoL, r⟩ := F1.ns
    refine ⟨⟨⟨oL, es, en, hk _ _ (nI _ hL).1 (nI _ hL).2 hoL, r⟩, fun b o e => ?_, F1.above⟩, fun p hp => ⟨hk _ _ (nI _ (hn p hp)).1 (nI _ (hn p hp)).2 (N1 p hp).1, (N1 p hp).2⟩⟩
    refine hk b o (fun e2 => ?_) (fun e2 => ?_) (F1.keep b o e)
    · rw [e2, hz _ (Nat.le_refl _)] at e; cases e
    · rw [e2, hz _ (Nat.le_succ _)] at e; cases e
  · rintro h1 ⟨_, N1⟩
    exact ⟨_, (N1 _ hm).1, rfl, ep, rfl⟩
  · rintro i j vi vj s1 Q1 E1 ⟨_, N1⟩ hi hj hq
    rw [List.getElem?_map] at hi hj
    obtain ⟨ri, hi1, rfl⟩ := Option.map_eq_some_iff.mp hi
    obtain ⟨rj, hj1, rfl⟩ := Option.map_eq_some_iff.mp hj
    have gi := (N1 _ (hws ri (List.mem_of_getElem? hi1))).1
    have gj := (N1 _ (hws rj (List.mem_of_getElem? hj1))).1
    have ei : ((a :: ws).map valT).getD i (0, 0) = (ri.p, ri.q) := by rw [List.getD_eq_getElem?_getD, List.getElem?_map, hi1]; rfl
    have ej : ((a :: ws).map valT).getD j (0, 0) = (rj.p, rj.q) := by rw [List.getD_eq_getElem?_getD, List.getElem?_map, hj1]; rfl
    rw [ei, ej] at hq
    exact rc_tup gi gj hu hq
  · rintro v h1 tk hv ⟨F1, N1⟩
    rw [List.getElem?_map] at hv
    obtain ⟨r, hr1, rfl⟩ := Option.map_eq_some_iff.mp hv
    refine h r h1 tk (List.mem_of_getElem? hr1) ?_ F1 N1
    have e := minI_best (valT a) (ws.map valT) ws.length (by simp)
    rw [show (ws.map valT).take ws.length = ws.map valT by rw [List.take_of_length_le]; simp] at e
    rw [← e, List.getD_eq_getElem?_getD]
    have hsz : (refsT (a :: ws)).length - 1 = ws.length := by simp
    rw [hsz] at hr1
    have e3 : ((valT a :: ws.map valT))[bestI (fun i j => ltT ((valT a :: ws.map valT).getD i (0, 0)) ((valT a :: ws.map valT).getD j (0, 0))) ws.length]? = some (valT r) := by
      rw [show (valT a :: ws.map valT) = (a :: ws).map valT from rfl, List.getElem?_map]
      exact congrArg (Option.map valT) hr1
    rw [e3]
    rfl
end
/- text T22 -/
theorem w_T22 : True := by
  w_top off
  exact trivial
section
local macro_rules | `(tactic| walk_at "compareOp NotEq ref ref") => `(tactic| (k_here; k_dflt (refine' neNil ?N ?a ?b ?u ?_; (case N => k_asm); (case a => k_mem); (case b => k_mem); (case u => first | ktr_units | ke_room)); intro v9 hv9))
noncomputable def W5 (us : List Value) (ws : List Nat) : Prop := us.length = 5 ∧ (∀ k, k < 5 → ∃ t, us[k]? = some (.int (ws.getD k 0 : Nat) t)) ∧ ∀ k, ws.getD k 0 ≤ 4
structure LeastK (C LL : Nat) (news rest : List (Addr × Obj)) (bs : List TupR) : Prop where
  mem : ∀ r ∈ bs, (r.a, r.o) ∈ rest
  sub : ∀ p ∈ news, p ∈ rest
  nC : ∀ p ∈ rest, p.1 ≠ C
  n1 : ∀ p ∈ rest, p.1 ≠ LL + 1 + 1
theorem ordA {g : Heap} {L : Addr} {h : Heap} {C l D k2 k1 : Addr × Obj} {r : List (Addr × Obj)} (N : News g L h (C :: l :: D :: k2 :: k1 :: r)) : News g L h (C :: k2 :: k1 :: D :: r) := by
  repeat (refine nc (nm N (by repeat (first | exact .head _ | refine .tail _ ?_))) ?_)
  exact fun p hp => N p (by repeat (first | exact hp | refine .tail _ ?_))
theorem nameTup {g : Heap} {L : Addr} {h : Heap} {C D : Addr} {o : Obj} {l : Addr × Obj} {t u : Tok} {r : List (Addr × Obj)} (_N : News g L h ((C, o) :: l :: (D, { cls := .type "tuple", data := .seq #[Value.int 0 t, Value.int 0 u] }) :: r)) : ∃ D' t' u', D' = D ∧ t' = t ∧ u' = u := ⟨_, _, _, rfl, rfl, rfl⟩
structure WaysK (sg load : Int) (best : List (Int × Int)) (mm j C LL W I : Nat) (rest more : List (Addr × Obj)) (vs : List TupR) : Prop where
  val : vs.map valT = waysI sg load best mm j
  mem : ∀ r ∈ vs, (r.a, r.o) ∈ more
  sub : ∀ p ∈ rest, p ∈ more
  nW : ∀ p ∈ more, p.1 ≠ W
  nC : ∀ p ∈ more, p.1 ≠ C
  n1 : ∀ p ∈ more, p.1 ≠ LL + 1 + 1
  nI : ∀ p ∈ more, p.1 ≠ I
theorem nameO9 {o : Obj} {d : Data} (_h : o.data = d) : ∃ o', o' = o := ⟨_, rfl⟩
theorem ordB {g : Heap} {L : Addr} {h : Heap} {W D I C k2 k1 : Addr × Obj} {r : List (Addr × Obj)} (N : News g L h (W :: D :: I :: C :: k2 :: k1 :: r)) : News g L h (W :: C :: k2 :: k1 :: I :: r) := by
  repeat (refine nc (nm N (by repeat (first | exact .head _ | refine .tail _ ?_))) ?_)
  exact fun p hp => N p (by repeat (first | exact hp | refine .tail _ ?_))
theorem nameTup2 {g : Heap} {L : Addr} {h : Heap} {Z : Addr} {p q : Int} {t u : Tok} {r : List (Addr × Obj)} (_N : News g L h ((Z, { cls := .type "tuple", data := .seq #[Value.int p t, Value.int q u] }) :: r)) : ∃ R : TupR, R.a = Z ∧ R.o = { cls := .type "tuple", data := .seq #[Value.int p t, Value.int q u] } ∧ valT R = (p, q) := ⟨⟨Z, p, q, t, u⟩, rfl, rfl, rfl⟩
theorem ordC {g : Heap} {L : Addr} {h : Heap} {Z Y I2 W C k2 k1 I : Addr × Obj} {r : List (Addr × Obj)} (N : News g L h (Z :: Y :: I2 :: W :: C :: k2 :: k1 :: I :: r)) : News g L h (W :: I2 :: C :: k2 :: k1 :: I :: Z :: r) := by
  repeat (refine nc (nm N (by repeat (first | exact .head _ | refine .tail _ ?_))) ?_)
  exact fun p hp => N p (by repeat (first | exact hp | refine .tail _ ?_))
theorem ordD {g : Heap} {L : Addr} {h : Heap} {W : Addr} {e : Nat} {I2 C k2 k1 I : Addr × Obj} {vs : List TupR} {R : TupR} {r : List (Addr × Obj)} (N : News g L h ((W, listOf ((refsT vs).toArray.push (.ref R.a)) e) :: I2 :: C :: k2 :: k1 :: I :: r)) : News g L h (I2 :: (W, listOf (refsT (vs ++ [R])).toArray e) :: C :: k2 :: k1 :: I :: r) := by
  rw [show (refsT vs).toArray.push (.ref R.a) = (refsT (vs ++ [R])).toArray by simp] at N
  repeat (refine nc (nm N (by repeat (first | exact .head _ | refine .tail _ ?_))) ?_)
  exact fun p hp => N p (by repeat (first | exact hp | refine .tail _ ?_))
theorem waysI_len (sg load : Int) (best : List (Int × Int)) (m i : Nat) : (waysI sg load best m i).length ≤ i := by
  unfold waysI partsB
  rw [List.length_map]
  exact Nat.le_trans (List.length_filter_le _ _) (by simp)
theorem val_at {bs : List TupR} {l : List (Int × Int)} (h : bs.map valT = l) {k : Nat} {r : TupR} (e : bs[k]? = some r) : l.getD k (0, 0) = valT r := by
  rw [← h, List.getD_eq_getElem?_getD, List.getElem?_map, e]
  rfl
theorem ordE {g : Heap} {L : Addr} {h : Heap} {E W C k2 k1 I : Addr × Obj} {r : List (Addr × Obj)} (N : News g L h (E :: W :: C :: k2 :: k1 :: I :: r)) : News g L h (C :: I :: k2 :: k1 :: r) := by
  repeat (refine nc (nm N (by repeat (first | exact .head _ | refine .tail _ ?_))) ?_)
  exact fun p hp => N p (by repeat (first | exact hp | refine .tail _ ?_))
theorem ordG {g : Heap} {L : Addr} {h : Heap} {C I : Addr × Obj} {r : List (Addr × Obj)} (N : News g L h (C :: I :: r)) : News g L h (I :: C :: r) := by
  repeat (refine nc (nm N (by repeat (first | exact .head _ | refine .tail _ ?_))) ?_)
  exact fun p hp => N p (by repeat (first | exact hp | refine .tail _ ?_))
inductive WaysJ (C LL W I P : Nat) (sg : Int) (ws : List Nat) (mm i : Nat) (bs : List TupR) (ep2 : Nat) (o3 o2 oI : Obj) (rest : List (Addr × Obj)) (m₀ : Str → Option Value) (j : Nat) (m₁ : Str → Option Value) (n₁ : List (Addr × Obj)) : Prop
  | mk  (vs : List TupR) (epw : Nat) (b1 b2 b3 : Option Value) (more : List (Addr × Obj)) (h1 : n₁ = (W, listOf (refsT vs).toArray epw) :: (C, listOf (refsT bs).toArray ep2) :: (LL + 1 + 1, o3) :: (LL + 1, o2) :: (I, oI) :: more) (h2 : (m₁ = fun y => if y = ("one" : Str) then b1 else if y = ("two" : Str) then b2 else if y = ("part" : Str) then b3 else m₀ y)) (h3 : WaysK sg (loadI ws mm 5).sum (bestS sg ws i) mm j C LL W I rest more vs) : WaysJ C LL W I P sg ws mm i bs ep2 o3 o2 oI rest m₀ j m₁ n₁
inductive LeastJ (C LL P : Nat) (sg : Int) (ws : List Nat) (news : List (Addr × Obj)) (m₀ : Str → Option Value) (i : Nat) (m₁ : Str → Option Value) (n₁ : List (Addr × Obj)) : Prop
  | mk  (bs : List TupR) (ep2 : Nat) (o1 o2 : Obj) (vk a1 a2 a3 a4 a5 : Option Value) (rest : List (Addr × Obj)) (h1 : n₁ = (C, listOf (refsT bs).toArray ep2) :: (LL + 1 + 1, o1) :: (LL + 1, o2) :: rest) (h2 : (m₁ = fun y => if y = ("one" : Str) then a1 else if y = ("two" : Str) then a2 else if y = ("part" : Str) then a3 else if y = ("ways" : Str) then a4 else if y = ("load" : Str) then a5 else m₀ y)) (h3 : o1.data = .cell vk) (h4 : o2.data = .cell (some (.ref P))) (h5 : bs.map valT = bestS sg ws i) (h6 : LeastK C LL news rest bs) : LeastJ C LL P sg ws news m₀ i m₁ n₁
local macro_rules | `(tactic| walk_at "subscriptTail Name Name ref int") => `(tactic| (k_here; refine stopSub ?_))
local macro_rules | `(tactic| walk_at "subscriptTail Name BinOp ref int") => `(tactic| (k_here; refine stopSub ?_))
local macro_rules | `(tactic| walk_at "setItem ref int") => `(tactic| (k_here; refine stopSub ?_))
local macro_rules | `(tactic| walk_at "subscriptTail Name Constant ref int") => `(tactic| (k_here; (with_reducible show wpAny _ _ (subscriptTail _ _ (Value.ref _) (Value.int 31 _)) _ _ _); refine stopSub ?_))
theorem least_ (w : World) (P : Addr) (ep : Nat) (us : List Value) (ws : List Nat) (sg : Int) (ts : Tok) (news) (hP : (P, listOf us.toArray ep) ∈ news) (hus : W5 us ws) (hsg : sg = 1 ∨ sg = -1) :
  Cx w 30 200 news (call (.ref 321) [.ref P, .int sg ts]) (fun r n' => ∃ R : TupR, r = .ref R.a ∧ (R.a, R.o) ∈ n' ∧ (∀ p ∈ news, p ∈ n') ∧ valT R = (bestS sg ws 31).getD 31 (0, 0)) := by
  unfold Cx
  k_fill
  intro loose mean mg mb dp un gd cn cs a ccd cl outer A₀ base h₀ L m s Q E B F X N T hk hd hu hret
  obtain ⟨s1, s2, s3, s4, s5⟩ := s
  dsimp only at F N hret
  refine wpAny_call ?_
  k_dflt (refine' code_defC ?k1 ?k2 ?k3 ?k4 ?k5 ?kA ?kF ?kK ?k6 ?k7 ?k8 ?k9 ?kB ?kD ?_ ?c2 ?c3 ?c4; (case kA => exact rfl); (case kF => exact rfl); (case kK => assumption); (case k1 => k_asm); (case k2 => k_asm); (case k3 => k_asm); (case k4 => k_asm); (case k5 => k_asm); (case k6 => k_is); (case k7 => k_is); (case k8 => ktr_room); (case k9 => first | exact BindsTo.of_eq rfl | exact binds_K (by k_in) rfl (by k_is) rfl rfl rfl); (case kB => exact rfl); (case kD => decide +kernel); (case c2 => exact rfl); (case c3 => exact rfl); (case c4 => exact rfl); k_whole; intro _ _ _ _ _ _ _ N' Y' _ _ _ _; k_cells Y'; (try simp only [List.cons_append, List.nil_append] at N'); (try dsimp only))
  refine hideQ ?_
  intro QQ EE hQQ
  rename ∀ p ∈ news, p.1 < _ => l1
  obtain ⟨LL, hLL⟩ := nameIt l1
  subst hLL
  k_steps
  rename News _ LL _ ((_, listOf #[Value.ref _] 0) :: _) => nL
  refine mulList (vs := [_]) (by k_asm) nL (News.isList nL (.head _)) (by decide) (by decide) (by simp) ?_
  intro C h2 F2 N2 lC
  k_steps
  rename IsRange _ _ _ _ _ _ _ _ => hrg
  rename News _ LL _ ((C, _) :: _ :: _) => nN
  obtain ⟨DZ, tz, uz, eD, et, eu⟩ := nameTup nN
  subst eD et eu
  have lD := lC (DZ, _) (.tail _ (.head _))
  have c0 := ltN (lC _ (.tail _ (.head _)))
  have c2 := ltN (lC _ (.tail _ (.tail _ (.head _))))
  have c1 := ltN (lC _ (.tail _ (.tail _ (.tail _ (.head _)))))
  rename _ < DZ ∧ _ < DZ ∧ _ => lDZ
  have c3 := ltN lDZ.1
  dsimp only at c0 c1 c2
  have nC : ∀ p ∈ news, p.1 ≠ C := fun p hp => Nat.ne_of_lt (lC p (.tail _ (.tail _ (.tail _ (.tail _ hp)))))
  have nK : ∀ p ∈ news, p.1 ≠ LL + 1 + 1 := fun p hp => Nat.ne_of_lt (Nat.lt_succ_of_lt (Nat.lt_succ_of_lt (l1 p hp)))
  refine for_walk (J₀ := fun m₀ i m₁ n₁ => LeastJ C LL P sg ws news m₀ i m₁ n₁) rfl (by k_asm) (ordA nN) (src_range (n := 31) hrg (rg_small (by omega) (by omega) (by omega) (by omega)) (rg_size (by omega))) ?hj (fun i m₁ n₁ _ p hp => nomatch hp) ?turn ?done
  case hj =>
    refine ⟨List.replicate 32 ⟨DZ, 0, 0, tz, tz + 1⟩, 0, _, _, _, _, _, _, _, _, _, rfl, map5g rfl rfl rfl rfl rfl, by assumption, by assumption, rfl, ?_, fun p hp => .tail _ hp, ?_, ?_⟩
    · intro r hr
      rw [List.eq_of_mem_replicate hr]
      exact .head _
    · intro p hp
      rcases List.mem_cons.mp hp with rfl | hp
      · exact neN (by dsimp only; omega)
      · exact nC p hp
    · intro p hp
      rcases List.mem_cons.mp hp with rfl | hp
      · exact neN (by dsimp only; omega)
      · exact nK p hp
  case turn =>
    rintro i v m₁ n₁ I oI h1 tk1 hi ⟨t, rfl⟩ ⟨bs, ep2, o1, o2, vk, a1, a2, a3, a4, a5, rest, rfl, rfl, ho1, ho2, hbs, LK⟩ hoff F1 N1 ZZ hZZ
    rw [show (1 : Int) + (i : Nat) = ((i + 1 : Nat) : Int) by omega]
    have nC1 := LK.nC
    have nK1 := LK.n1
    have i1 := neN (hoff _ (.head _))
    have i2 := neN (hoff _ (.tail _ (.head _)))
    have i3 := neN (hoff _ (.tail _ (.tail _ (.head _))))
    have i0 : ∀ p ∈ rest, p.1 ≠ I := fun p hp => hoff p (.tail _ (.tail _ (.tail _ hp)))
    dsimp only at i1 i2 i3
    generalize hm : i + 1 = mm
    k_steps
    rename IsRange _ _ 0 5 _ _ _ _ => hrg2
    rename News _ LL _ ((I, _) :: _) => nA
    obtain ⟨us5, usk, us4⟩ := hus
    refine comp_walk0 rfl (by k_asm) nA (src_range (n := 5) hrg2 (rg_small (by omega) (by omega) (by omega) (by omega)) (rg_size (by omega))) (fun p hp => nomatch hp) (by decide) rfl (fun i ys => IntsAre ys (loadI ws mm i)) .nil (by decide) ?_ ?_
    · rintro k v ys I2 D2 C2 oI2 oC2 h2 tk2 hk5 ⟨tk9, rfl⟩ hlen hJ off2 F2 N2 ⟨mc2, hns2⟩ ZZ hZZ
      rw [show (0 : Int) + (k : Nat) = (k : Nat) by omega]
      obtain ⟨tw, hw⟩ := usk k hk5
      have hPm : (P, listOf us.toArray ep) ∈ rest := LK.sub _ hP
      k_steps
      · rename Builtin.bitAnd _ _ = 1 => hb
        rw [Int.toNat_natCast] at hb
        have hb1 : bitB mm k = true := decide_eq_true hb
        refine StopS.go ?_
        refine item_listL (l := us) (News.isList (by k_asm) (by k_mem)) (by omega) (by omega) (by rw [Int.toNat_natCast]; exact hw) ?_
        refine Hid.out hZZ ?_
        exact ⟨_, _, _, _, rfl, by k_asm, by k_asm, by k_asm, by rw [loadI_succ, if_pos hb1]; exact intsAre_snoc hJ⟩
      · rename Builtin.bitAnd _ _ ≠ 1 => hb
        rw [Int.toNat_natCast] at hb
        have hb1 : ¬ bitB mm k = true := fun h => hb (of_decide_eq_true h)
        exact ⟨_, _, _, _, rfl, by k_asm, by k_asm, by k_asm, by rw [loadI_succ, if_neg hb1, List.append_nil]; exact hJ⟩
    · rintro ys D2 h2 tk2 hlen hJ hD2 F2 N2
      dsimp only
      k_steps
      rename IsRange _ _ _ (mm : Int) _ _ _ _ => hrg3
      rename News _ LL _ ((_, listOf #[] 0) :: _) => nW
      rename D2 < _ ∧ _ => lW
      obtain ⟨W, hW⟩ := nameLt lW
      subst hW
      have w1 := ltN lW.2.1
      have w2 := ltN lW.2.2.1
      have w3 := ltN lW.2.2.2.1
      have w4 := ltN lW.2.2.2.2.1
      have wr : ∀ p ∈ rest, p.1 ≠ W := fun p hp => Nat.ne_of_lt (allLt_all lW.2.2.2.2.2 p hp)
      have hfd : (mm : Int).fdiv 2 = ((mm / 2 : Nat) : Int) := by rw [Int.fdiv_eq_ediv_of_nonneg _ (by omega)]; omega
      rw [hfd] at hrg3
      rename _ = Data.cell (some (Value.int (mm : Nat) t)) => hok1
      obtain ⟨o3, ho3⟩ := nameO9 hok1
      subst ho3
      refine for_walk (J₀ := fun m₀ j m₁ n₁ => WaysJ C LL W I P sg ws mm i bs ep2 o3 o2 oI rest m₀ j m₁ n₁) rfl (by k_asm) (ordB nW) (src_range (n := mm - (mm / 2 + 1)) hrg3 (rg_small (by omega) (by omega) (by omega) (by omega)) (rg_size (by omega))) ?hj2 (fun i m₁ n₁ _ p hp => nomatch hp) ?turn2 ?done2
      case hj2 => exact ⟨[], 0, _, _, _, rest, rfl, map3g rfl rfl rfl, rfl, (fun _ h => nomatch h), fun p hp => hp, wr, nC1, nK1, i0⟩
      case turn2 =>
        rintro j v m₂ n₂ I2 oI2 h3 tk3 hj ⟨tj, rfl⟩ ⟨vs, epw, b1, b2, b3, more, rfl, rfl, WK⟩ hoff2 F3 N3 ZZ hZZ
        rw [show ((mm / 2 : Nat) : Int) + 1 + (j : Nat) = ((mm / 2 + 1 + j : Nat) : Int) by omega]
        generalize hpp : mm / 2 + 1 + j = pp
        have pm : pp < mm := by omega
        have hbl : bs.length = 32 := by rw [← List.length_map (f := valT), hbs, bestS_len]
        obtain ⟨r1, hr1⟩ : ∃ r, bs[pp]? = some r := ⟨bs[pp]'(by omega), List.getElem?_eq_getElem (by omega)⟩
        obtain ⟨r2, hr2⟩ : ∃ r, bs[mm - pp]? = some r := ⟨bs[mm - pp]'(by omega), List.getElem?_eq_getElem (by omega)⟩
        have m1 : (r1.a, r1.o) ∈ more := WK.sub _ (LK.mem _ (List.mem_of_getElem? hr1))
        have m2 : (r2.a, r2.o) ∈ more := WK.sub _ (LK.mem _ (List.mem_of_getElem? hr2))
        k_steps
        · rename Builtin.bitAnd _ _ = _ => hb
          have hb1 : fitB mm pp = true := decide_eq_true hb
          refine StopS.go ?_
          refine item_listL (l := refsT bs) (x := .ref r1.a) (News.isList (by k_asm) (by k_mem)) (by omega) (by omega) (by rw [Int.toNat_natCast, List.getElem?_map, hr1]; rfl) ?_
          k_steps
          rw [show (mm : Int) - (pp : Nat) = ((mm - pp : Nat) : Int) by omega]
          refine StopS.go ?_
          refine item_listL (l := refsT bs) (x := .ref r2.a) (News.isList (by k_asm) (by k_mem)) (by omega) (by omega) (by rw [Int.toNat_natCast, List.getElem?_map, hr2]; rfl) ?_
          k_steps
          rename News _ LL _ (_ :: _ :: (I2, _) :: (W, _) :: _) => nX
          rename _ < _ ∧ I2 < _ ∧ W < _ ∧ _ => lZ
          obtain ⟨R, e1, e2, e3⟩ := nameTup2 nX
          subst e1
          rw [← e2] at nX
          have z1 := ltN lZ.2.1
          have z2 := ltN lZ.2.2.1
          have z3 := ltN lZ.2.2.2.1
          have z4 := ltN lZ.2.2.2.2.1
          have z5 := ltN lZ.2.2.2.2.2.2.1
          have nY := ordC nX
          have hvl : vs.length ≤ 100 := by
            rw [← List.length_map (f := valT), WK.val]
            exact Nat.le_trans (waysI_len _ _ _ _ _) (by omega)
          have u1 := neN (hoff2 _ (.head _))
          dsimp only at u1
          refine append_K (by k_asm) nY (Upd.head ?hd) ?_ ?hz
          case hz =>
            simp only [List.size_toArray, List.length_map]
            rw [sizeLine_eq]
            omega
          case hd =>
            intro p hp
            simp only [List.mem_cons] at hp
            rcases hp with rfl | rfl | rfl | rfl | rfl | rfl | hp
            · exact Ne.symm u1
            · exact neN (by dsimp only; omega)
            · exact neN (by dsimp only; omega)
            · exact neN (by dsimp only; omega)
            · exact neN (by dsimp only; omega)
            · exact neN (by dsimp only; omega)
            · exact WK.nW p hp
          intro h4 F4 N4
          k_steps
          have nw : ∀ {P : Nat → Prop}, P R.a → (∀ p ∈ more, P p.1) → ∀ p ∈ (R.a, R.o) :: more, P p.1 := by
            intro P h1 h2 p hp
            rcases List.mem_cons.mp hp with rfl | hp
            · exact h1
            · exact h2 p hp
          have F5 := Eq.mp (congrArg (Fr _ LL h4) sh3) F4
          refine ⟨_, _, _, _, rfl, F5, ordD N4, ?_, vs ++ [R], _, _, _, _, (R.a, R.o) :: more, rfl, rfl, ?_, ?_, fun p hp => .tail _ (WK.sub p hp), nw (P := fun a => a ≠ W) (neN (by omega)) WK.nW, nw (P := fun a => a ≠ C) (neN (by omega)) WK.nC, nw (P := fun a => a ≠ LL + 1 + 1) (neN (by omega)) WK.n1, nw (P := fun a => a ≠ I) (neN (by omega)) WK.nI⟩
          · intro p hp
            simp only [List.mem_cons] at hp
            rcases hp with rfl | rfl | rfl | rfl | rfl | rfl | hp
            · exact u1
            · exact hoff2 _ (.tail _ (.head _))
            · exact hoff2 _ (.tail _ (.tail _ (.head _)))
            · exact hoff2 _ (.tail _ (.tail _ (.tail _ (.head _))))
            · exact hoff2 _ (.tail _ (.tail _ (.tail _ (.tail _ (.head _)))))
            · exact neN (by dsimp only; omega)
            · exact hoff2 p (.tail _ (.tail _ (.tail _ (.tail _ (.tail _ hp)))))
          · rw [List.map_append, WK.val, waysI_succ, if_pos (by rw [hpp]; exact hb1), hpp]
            show _ ++ [valT R] = _
            rw [e3, val_at hbs hr1, val_at hbs hr2]
            rfl
          · intro r hr
            rcases List.mem_append.mp hr with hr | hr
            · exact .tail _ (WK.mem r hr)
            · rw [List.mem_singleton.mp hr]
              exact .head _
        · rename Builtin.bitAnd _ _ ≠ _ => hb
          have hb1 : ¬ fitB mm pp = true := fun h => hb (of_decide_eq_true h)
          rename Fr _ LL _ _ => kF
          have F5 := Eq.mp (congrArg (Fr _ LL _) (sh1 (by decide) (by decide))) kF
          refine ⟨_, _, _, _, rfl, F5, by k_asm, fun p hp => hoff2 p hp, vs, _, _, _, _, more, rfl, rfl, ?_, WK.mem, WK.sub, WK.nW, WK.nC, WK.n1, WK.nI⟩
          rw [WK.val, waysI_succ, if_neg (by rw [hpp]; exact hb1), List.append_nil]
      case done2 =>
        rintro m₂ n₂ h3 tk3 ⟨vs, epw, b1, b2, b3, more, rfl, rfl, WK⟩ F3 N3
        dsimp only
        k_steps
        all_goals rename _ = !(refsT vs).isEmpty => hv9
        · rename _ = true => h9
          rw [h9] at hv9
          obtain _ | ⟨v0, vr⟩ := vs
          · cases hv9
          rename News _ LL _ (_ :: (W, _) :: _) => nM
          refine minT rfl (by k_asm) nM (.tail _ (.head _)) (fun r hr => .tail _ (.tail _ (.tail _ (.tail _ (.tail _ (.tail _ (WK.mem r hr))))))) (by first | ktr_units | ke_room) ?_
          intro r h5 tk5 hr hv F5 N5
          have hstep : stepI sg ws (bestS sg ws i) mm = (bestS sg ws i).set mm (minI (valT v0) (vr.map valT)) := by
            unfold stepI
            rw [← WK.val]
            rfl
          k_steps
          have hbl : bs.length = 32 := by rw [← List.length_map (f := valT), hbs, bestS_len]
          refine StopS.go ?_
          refine ki_set (its := (refsT bs).toArray) (n := ep2) (by k_asm) (ordE N5) (by omega) (by omega) (setL_ok (by rw [Int.toNat_natCast, List.length_map, hbl]; omega)) (Upd.head ?hd3) ?_
          case hd3 =>
            intro p hp
            simp only [List.mem_cons] at hp
            rcases hp with rfl | rfl | rfl | hp
            · exact Ne.symm i1
            · exact neN (by dsimp only; omega)
            · exact neN (by dsimp only; omega)
            · exact WK.nC p hp
          intro h6 F6 N6
          k_steps
          have hset : (refsT bs).toArray.toList.set (mm : Int).toNat (Value.ref r.a) = refsT (bs.set mm r) := by
            rw [Int.toNat_natCast]
            show (List.map _ bs).set mm _ = List.map _ (bs.set mm r)
            rw [List.map_set]
          rw [hset] at N6
          have F7 := Eq.mp (congrArg (Fr _ LL h6) sh5) F6
          refine ⟨_, _, _, _, rfl, F7, ordG N6, ?_, bs.set mm r, ep2, o3, o2, _, _, _, _, _, _, more, rfl, rfl, by assumption, ho2, ?_, ?_, fun p hp => WK.sub p (LK.sub p hp), WK.nC, WK.n1⟩
          · intro p hp
            simp only [List.mem_cons] at hp
            rcases hp with rfl | rfl | rfl | hp
            · exact i1
            · exact i2
            · exact i3
            · exact WK.nI p hp
          · rw [List.map_set, hbs, hv, ← hstep, ← hm]
            rfl
          · intro q hq
            rcases List.mem_or_eq_of_mem_set hq with hq | rfl
            · exact WK.sub _ (LK.mem q hq)
            · exact WK.mem _ hr
        · rename _ = false => h9
          rw [h9] at hv9
          obtain _ | ⟨v0, vr⟩ := vs
          rotate_left
          · cases hv9
          have hstep : stepI sg ws (bestS sg ws i) mm = bestS sg ws i := by
            unfold stepI
            rw [← WK.val]
            rfl
          rename News _ LL _ (_ :: (W, _) :: _) => nM
          rename Fr _ LL _ _ => kF
          have F7 := Eq.mp (congrArg (Fr _ LL _) sh5) kF
          refine ⟨_, _, _, _, rfl, F7, ordG (ordE nM), ?_, bs, ep2, o3, o2, _, _, _, _, _, _, more, rfl, rfl, by assumption, ho2, ?_, ?_, fun p hp => WK.sub p (LK.sub p hp), WK.nC, WK.n1⟩
          · intro p hp
            simp only [List.mem_cons] at hp
            rcases hp with rfl | rfl | rfl | hp
            · exact i1
            · exact i2
            · exact i3
            · exact WK.nI p hp
          · rw [hbs, bestS, hm, hstep]
          · exact fun q hq => WK.sub _ (LK.mem q hq)
  case done =>
    rintro m₁ n₁ h1 tk1 ⟨bs, ep2, o1, o2, vk, a1, a2, a3, a4, a5, rest, rfl, rfl, ho1, ho2, hbs, LK⟩ F1 N1
    dsimp only
    have hbl : bs.length = 32 := by rw [← List.length_map (f := valT), hbs, bestS_len]
    obtain ⟨r, hr⟩ : ∃ r, bs[31]? = some r := ⟨bs[31]'(by omega), List.getElem?_eq_getElem (by omega)⟩
    k_steps
    refine StopS.go ?_
    refine item_listL (l := refsT bs) (x := .ref r.a) (News.isList (by k_asm) (by k_mem)) (by omega) (by omega) (by rw [show Int.toNat 31 = 31 from rfl, List.getElem?_map, hr]; rfl) ?_
    k_steps
    rename News h₀ L _ _ => kN
    refine hret _ _ _ _ ⟨r, rfl, .tail _ (.tail _ (.tail _ (LK.mem _ (List.mem_of_getElem? hr)))), fun p hp => .tail _ (.tail _ (.tail _ (LK.sub p hp))), (val_at hbs hr).symm⟩ (by k_asm) kN
end
/- text P8 -/
theorem w_P8 : True := by
  w_top off
  exact trivial
noncomputable def g2 (sg : Int) (a b : Int) : Int × Int := minI (joinI sg [a, b].sum (0, 0) (0, 0)) []
noncomputable def g3 (sg : Int) (a b c : Int) : Int × Int := minI (joinI sg [a, b, c].sum (0, 0) (g2 sg a b)) [joinI sg [a, b, c].sum (g2 sg a c) (0, 0), joinI sg [a, b, c].sum (g2 sg b c) (0, 0)]
noncomputable def g4 (sg : Int) (a b c d : Int) : Int × Int :=
  minI (joinI sg [a, b, c, d].sum (0, 0) (g3 sg a b c)) [joinI sg [a, b, c, d].sum (g2 sg a d) (g2 sg b c), joinI sg [a, b, c, d].sum (g2 sg b d) (g2 sg a c), joinI sg [a, b, c, d].sum (g3 sg a b d) (0, 0),
    joinI sg [a, b, c, d].sum (g2 sg c d) (g2 sg a b), joinI sg [a, b, c, d].sum (g3 sg a c d) (0, 0), joinI sg [a, b, c, d].sum (g3 sg b c d) (0, 0)]
noncomputable def g5 (sg : Int) (a b c d e : Int) : Int × Int :=
  minI (joinI sg [a, b, c, d, e].sum (0, 0) (g4 sg a b c d)) [joinI sg [a, b, c, d, e].sum (g2 sg a e) (g3 sg b c d), joinI sg [a, b, c, d, e].sum (g2 sg b e) (g3 sg a c d), joinI sg [a, b, c, d, e].sum (g3 sg a b e) (g2 sg c d),
    joinI sg [a, b, c, d, e].sum (g2 sg c e) (g3 sg a b d), joinI sg [a, b, c, d, e].sum (g3 sg a c e) (g2 sg b d), joinI sg [a, b, c, d, e].sum (g3 sg b c e) (g2 sg a d), joinI sg [a, b, c, d, e].sum (g4 sg a b c e) (0, 0),
    joinI sg [a, b, c, d, e].sum (g2 sg d e) (g3 sg a b c), joinI sg [a, b, c, d, e].sum (g3 sg a d e) (g2 sg b c), joinI sg [a, b, c, d, e].sum (g3 sg b d e) (g2 sg a c), joinI sg [a, b, c, d, e].sum (g4 sg a b d e) (0, 0),
    joinI sg [a, b, c, d, e].sum (g3 sg c d e) (g2 sg a b), joinI sg [a, b, c, d, e].sum (g4 sg a c d e) (0, 0), joinI sg [a, b, c, d, e].sum (g4 sg b c d e) (0, 0)]
set_option maxHeartbeats 2000000 in
theorem best_g5 (sg : Int) (a b c d e : Nat) : (bestS sg [a, b, c, d, e] 31).getD 31 (0, 0) = g5 sg a b c d e := by
  kernel_rfl
/- text P9 -/
theorem w_P9 : True := by
  w_top off
  exact trivial
theorem ltT_trans {x y z : Int × Int} (h1 : ltT y x = false) (h2 : ltT z y = false) : ltT z x = false := by
  simp only [ltT, Bool.or_eq_false_iff, Bool.and_eq_false_iff, decide_eq_false_iff_not] at *
  omega
theorem ltT_irr (x : Int × Int) : ltT x x = false := by simp [ltT]
theorem ltT_ant {x y : Int × Int} (h1 : ltT y x = false) (h2 : ltT x y = false) : x = y := by
  simp only [ltT, Bool.or_eq_false_iff, Bool.and_eq_false_iff, decide_eq_false_iff_not] at *
  exact Prod.ext (by omega) (by omega)
theorem ltT_asym {x y : Int × Int} (h : ltT x y = true) : ltT y x = false := by
  simp only [ltT, Bool.or_eq_true, Bool.and_eq_true, Bool.or_eq_false_iff, Bool.and_eq_false_iff, decide_eq_false_iff_not, decide_eq_true_eq] at *
  omega
theorem minI_spec : ∀ (l : List (Int × Int)) (b : Int × Int), minI b l ∈ b :: l ∧ ∀ y ∈ b :: l, ltT y (minI b l) = false
  | [], b => ⟨.head _, fun y hy => by rw [List.mem_singleton.mp hy]; exact ltT_irr b⟩
  | a :: r, b => by
    rw [minI]
    obtain ⟨h1, h2⟩ := minI_spec r (if ltT a b = true then a else b)
    refine ⟨?_, fun y hy => ?_⟩
    · rcases List.mem_cons.mp h1 with h | h
      · rw [h]
        split
        · exact .tail _ (.head _)
        · exact .head _
      · exact .tail _ (.tail _ h)
    · have h0 := h2 _ (.head _)
      rcases List.mem_cons.mp hy with rfl | hy
      · by_cases hc : ltT a y = true
        · rw [if_pos hc] at h0 ⊢
          exact ltT_trans h0 (ltT_asym hc)
        · rw [if_neg hc] at h0 ⊢
          exact h0
      · rcases List.mem_cons.mp hy with rfl | hy
        · by_cases hc : ltT y b = true
          · rw [if_pos hc] at h0 ⊢
            exact h0
          · rw [if_neg hc] at h0 ⊢
            exact ltT_trans h0 (by simpa using hc)
        · exact h2 y (.tail _ hy)
theorem minI_congr {b b' : Int × Int} {l l' : List (Int × Int)} (h : ∀ z, z ∈ b :: l ↔ z ∈ b' :: l') : minI b l = minI b' l' := by
  obtain ⟨h1, h2⟩ := minI_spec l b
  obtain ⟨h3, h4⟩ := minI_spec l' b'
  exact ltT_ant (h2 _ ((h _).mpr h3)) (h4 _ ((h _).mp h1))
theorem allC {α : Type} {P : α → Prop} {a : α} {r : List α} (ha : P a) (hr : ∀ p ∈ r, P p) : ∀ p ∈ a :: r, P p := fun p hp => (List.mem_cons.mp hp).elim (fun e => e ▸ ha) (hr p)
theorem minI_sub {b b' : Int × Int} {l l' : List (Int × Int)} (h1 : ∀ z ∈ b :: l, z ∈ b' :: l') (h2 : ∀ z ∈ b' :: l', z ∈ b :: l) : minI b l = minI b' l' := minI_congr fun z => ⟨h1 z, h2 z⟩
theorem joinI_comm (sg load : Int) (a b : Int × Int) : joinI sg load a b = joinI sg load b a := by
  unfold joinI
  refine Prod.ext (by dsimp only; omega) ?_
  dsimp only
  congr 2
  split <;> split <;> omega
theorem s2 (a b : Int) : [b, a].sum = [a, b].sum := by simp only [List.sum_cons, List.sum_nil]; omega
theorem g2_sw (sg a b : Int) : g2 sg a b = g2 sg b a := by unfold g2; rw [s2]
theorem g3_12 (sg a b c : Int) : g3 sg a b c = g3 sg b a c := by
  unfold g3
  rw [show [b, a, c].sum = [a, b, c].sum by simp only [List.sum_cons, List.sum_nil]; omega]
  simp only [g2_sw sg, joinI_comm sg]
  refine minI_sub ?_ ?_
  · repeat (refine allC (by repeat (first | with_reducible exact List.mem_cons_self | with_reducible refine List.mem_cons_of_mem _ ?_)) ?_)
    exact fun _ h => nomatch h
  · repeat (refine allC (by repeat (first | with_reducible exact List.mem_cons_self | with_reducible refine List.mem_cons_of_mem _ ?_)) ?_)
    exact fun _ h => nomatch h
theorem g3_23 (sg a b c : Int) : g3 sg a b c = g3 sg a c b := by
  unfold g3
  rw [show [a, c, b].sum = [a, b, c].sum by simp only [List.sum_cons, List.sum_nil]; omega]
  simp only [g2_sw sg, joinI_comm sg]
  refine minI_sub ?_ ?_
  · repeat (refine allC (by repeat (first | with_reducible exact List.mem_cons_self | with_reducible refine List.mem_cons_of_mem _ ?_)) ?_)
    exact fun _ h => nomatch h
  · repeat (refine allC (by repeat (first | with_reducible exact List.mem_cons_self | with_reducible refine List.mem_cons_of_mem _ ?_)) ?_)
    exact fun _ h => nomatch h
theorem g4_12 (sg a b c d : Int) : g4 sg a b c d = g4 sg b a c d := by
  unfold g4
  rw [show [b, a, c, d].sum = [a, b, c, d].sum by simp only [List.sum_cons, List.sum_nil]; omega]
  simp only [g2_sw sg, g3_12 sg, g3_23 sg, joinI_comm sg]
  refine minI_sub ?_ ?_
  · repeat (refine allC (by repeat (first | with_reducible exact List.mem_cons_self | with_reducible refine List.mem_cons_of_mem _ ?_)) ?_)
    exact fun _ h => nomatch h
  · repeat (refine allC (by repeat (first | with_reducible exact List.mem_cons_self | with_reducible refine List.mem_cons_of_mem _ ?_)) ?_)
    exact fun _ h => nomatch h
theorem g4_23 (sg a b c d : Int) : g4 sg a b c d = g4 sg a c b d := by
  unfold g4
  rw [show [a, c, b, d].sum = [a, b, c, d].sum by simp only [List.sum_cons, List.sum_nil]; omega]
  simp only [g2_sw sg, g3_12 sg, g3_23 sg, joinI_comm sg]
  refine minI_sub ?_ ?_
  · repeat (refine allC (by repeat (first | with_reducible exact List.mem_cons_self | with_reducible refine List.mem_cons_of_mem _ ?_)) ?_)
    exact fun _ h => nomatch h
  · repeat (refine allC (by repeat (first | with_reducible exact List.mem_cons_self | with_reducible refine List.mem_cons_of_mem _ ?_)) ?_)
    exact fun _ h => nomatch h
theorem g4_34 (sg a b c d : Int) : g4 sg a b c d = g4 sg a b d c := by
  unfold g4
  rw [show [a, b, d, c].sum = [a, b, c, d].sum by simp only [List.sum_cons, List.sum_nil]; omega]
  simp only [g2_sw sg, g3_12 sg, g3_23 sg, joinI_comm sg]
  refine minI_sub ?_ ?_
  · repeat (refine allC (by repeat (first | with_reducible exact List.mem_cons_self | with_reducible refine List.mem_cons_of_mem _ ?_)) ?_)
    exact fun _ h => nomatch h
  · repeat (refine allC (by repeat (first | with_reducible exact List.mem_cons_self | with_reducible refine List.mem_cons_of_mem _ ?_)) ?_)
    exact fun _ h => nomatch h
theorem g5_12 (sg a b c d e : Int) : g5 sg a b c d e = g5 sg b a c d e := by
  unfold g5
  rw [show [b, a, c, d, e].sum = [a, b, c, d, e].sum by simp only [List.sum_cons, List.sum_nil]; omega]
  simp only [g2_sw sg, g3_12 sg, g3_23 sg, g4_12 sg, g4_23 sg, g4_34 sg, joinI_comm sg]
  refine minI_sub ?_ ?_
  · repeat (refine allC (by repeat (first | with_reducible exact List.mem_cons_self | with_reducible refine List.mem_cons_of_mem _ ?_)) ?_)
    exact fun _ h => nomatch h
  · repeat (refine allC (by repeat (first | with_reducible exact List.mem_cons_self | with_reducible refine List.mem_cons_of_mem _ ?_)) ?_)
    exact fun _ h => nomatch h
theorem g5_23 (sg a b c d e : Int) : g5 sg a b c d e = g5 sg a c b d e := by
  unfold g5
  rw [show [a, c, b, d, e].sum = [a, b, c, d, e].sum by simp only [List.sum_cons, List.sum_nil]; omega]
  simp only [g2_sw sg, g3_12 sg, g3_23 sg, g4_12 sg, g4_23 sg, g4_34 sg, joinI_comm sg]
  refine minI_sub ?_ ?_
  · repeat (refine allC (by repeat (first | with_reducible exact List.mem_cons_self | with_reducible refine List.mem_cons_of_mem _ ?_)) ?_)
    exact fun _ h => nomatch h
  · repeat (refine allC (by repeat (first | with_reducible exact List.mem_cons_self | with_reducible refine List.mem_cons_of_mem _ ?_)) ?_)
    exact fun _ h => nomatch h
theorem g5_34 (sg a b c d e : Int) : g5 sg a b c d e = g5 sg a b d c e := by
  unfold g5
  rw [show [a, b, d, c, e].sum = [a, b, c, d, e].sum by simp only [List.sum_cons, List.sum_nil]; omega]
  simp only [g2_sw sg, g3_12 sg, g3_23 sg, g4_12 sg, g4_23 sg, g4_34 sg, joinI_comm sg]
  refine minI_sub ?_ ?_
  · repeat (refine allC (by repeat (first | with_reducible exact List.mem_cons_self | with_reducible refine List.mem_cons_of_mem _ ?_)) ?_)
    exact fun _ h => nomatch h
  · repeat (refine allC (by repeat (first | with_reducible exact List.mem_cons_self | with_reducible refine List.mem_cons_of_mem _ ?_)) ?_)
    exact fun _ h => nomatch h
theorem g5_45 (sg a b c d e : Int) : g5 sg a b c d e = g5 sg a b c e d := by
  unfold g5
  rw [show [a, b, c, e, d].sum = [a, b, c, d, e].sum by simp only [List.sum_cons, List.sum_nil]; omega]
  simp only [g2_sw sg, g3_12 sg, g3_23 sg, g4_12 sg, g4_23 sg, g4_34 sg, joinI_comm sg]
  refine minI_sub ?_ ?_
  · repeat (refine allC (by repeat (first | with_reducible exact List.mem_cons_self | with_reducible refine List.mem_cons_of_mem _ ?_)) ?_)
    exact fun _ h => nomatch h
  · repeat (refine allC (by repeat (first | with_reducible exact List.mem_cons_self | with_reducible refine List.mem_cons_of_mem _ ?_)) ?_)
    exact fun _ h => nomatch h
/- text P10 -/
theorem w_P10 : True := by
  w_top off
  exact trivial
noncomputable def sgOf (right : Bool) : Int := if right then 1 else -1
noncomputable def G5 (sg : Int) (l : List Nat) : Int × Int := g5 sg (l.getD 0 0 : Nat) (l.getD 1 0 : Nat) (l.getD 2 0 : Nat) (l.getD 3 0 : Nat) (l.getD 4 0 : Nat)
theorem G5_swap (sg : Int) (x y : Nat) : ∀ (p l : List Nat), (p ++ y :: x :: l).length = 5 → G5 sg (p ++ y :: x :: l) = G5 sg (p ++ x :: y :: l)
  | [], [c, d, e], _ => g5_12 ..
  | [a], [d, e], _ => g5_23 ..
  | [a, b], [e], _ => g5_34 ..
  | [a, b, c], [], _ => g5_45 ..
  | [], [], h => by simp at h
  | [], [_], h => by simp at h
  | [], [_, _], h => by simp at h
  | [], _ :: _ :: _ :: _ :: _, h => by simp at h
  | [_], [], h => by simp at h
  | [_], [_], h => by simp at h
  | [_], _ :: _ :: _ :: _, h => by simp at h
  | [_, _], [], h => by simp at h
  | [_, _], _ :: _ :: _, h => by simp at h
  | [_, _, _], _ :: _, h => by simp at h
  | _ :: _ :: _ :: _ :: _, _, h => by simp at h; omega
theorem G5_perm (sg : Int) {l l' : List Nat} (h : l.Perm l') : ∀ p : List Nat, (p ++ l).length = 5 → G5 sg (p ++ l) = G5 sg (p ++ l') := by
  induction h with
  | nil => intro p _; rfl
  | cons x _ ih =>
    intro p hp
    have := ih (p ++ [x]) (by simpa using hp)
    simpa using this
  | swap x y l => exact fun p hp => G5_swap sg x y p l hp
  | trans h1 _ ih1 ih2 =>
    intro p hp
    rw [ih1 p hp]
    exact ih2 p (by rw [List.length_append, ← h1.length_eq, ← List.length_append]; exact hp)
theorem bis_spec (f : Nat → Bool) (n : Nat) (mono : ∀ i j, i ≤ j → j < n → f i = true → f j = true) : ∀ fuel lo hi, hi ≤ n → hi - lo ≤ fuel → lo ≤ hi →
    lo ≤ bis f fuel lo hi ∧ bis f fuel lo hi ≤ hi ∧ (∀ j, lo ≤ j → j < bis f fuel lo hi → f j = false) ∧ (∀ j, bis f fuel lo hi ≤ j → j < hi → f j = true)
  | 0, lo, hi, _, h, h2 => by
    rw [bis]
    exact ⟨Nat.le_refl _, h2, fun j a b => absurd b (by omega), fun j a b => absurd b (by omega)⟩
  | fuel + 1, lo, hi, hn, h, h2 => by
    rw [bis]
    by_cases hl : lo < hi
    · rw [if_pos hl]
      by_cases hf : f ((lo + hi) / 2) = true
      · rw [if_pos hf]
        obtain ⟨a, b, c, d⟩ := bis_spec f n mono fuel lo ((lo + hi) / 2) (by omega) (by omega) (by omega)
        refine ⟨a, by omega, c, fun j h3 h4 => ?_⟩
        by_cases hj : j < (lo + hi) / 2
        · exact d j h3 hj
        · exact mono _ j (by omega) (by omega) hf
      · rw [if_neg hf]
        obtain ⟨a, b, c, d⟩ := bis_spec f n mono fuel ((lo + hi) / 2 + 1) hi hn (by omega) (by omega)
        refine ⟨by omega, b, fun j h3 h4 => ?_, d⟩
        by_cases hj : (lo + hi) / 2 + 1 ≤ j
        · exact c j hj h4
        · cases e : f j with
          | false => rfl
          | true => exact absurd (mono j _ (by omega) (by omega) e) hf
    · rw [if_neg hl]
      exact ⟨Nat.le_refl _, h2, fun j a b => absurd b (by omega), fun j a b => absurd b (by omega)⟩
theorem sorted_get {row : List Nat} {W : Nat → Nat} (h : (row.map W).Pairwise (· ≤ ·)) {i j : Nat} (hij : i ≤ j) (hj : j < row.length) : W (row.getD i 0) ≤ W (row.getD j 0) := by
  rcases Nat.lt_or_eq_of_le hij with hlt | rfl
  · have := List.pairwise_iff_getElem.mp h i j (by simp; omega) (by simpa using hj) hlt
    rw [List.getElem_map, List.getElem_map] at this
    rw [List.getD_eq_getElem?_getD, List.getD_eq_getElem?_getD, List.getElem?_eq_getElem (by omega), List.getElem?_eq_getElem hj]
    exact this
  · exact Nat.le_refl _
theorem ins_split {row : List Nat} {W : Nat → Nat} {k i : Nat} (h : (row.map W).Pairwise (· ≤ ·)) (hi : i ≤ row.length) (h1 : ∀ j, j < i → W (row.getD j 0) ≤ W k) (h2 : ∀ j, i ≤ j → j < row.length → W k ≤ W (row.getD j 0)) : ((insAt i row k).map W).Pairwise (· ≤ ·) := by
  unfold insAt
  rw [List.map_append, List.map_cons, List.pairwise_append, List.pairwise_cons]
  rw [← List.take_append_drop i row, List.map_append, List.pairwise_append] at h
  obtain ⟨p1, p2, p3⟩ := h
  refine ⟨p1, ⟨fun b hb => ?_, p2⟩, fun a ha b hb => ?_⟩
  · obtain ⟨q, hq, rfl⟩ := List.mem_map.mp hb
    obtain ⟨j, hj, rfl⟩ := List.getElem_of_mem hq
    rw [List.length_drop] at hj
    have := h2 (i + j) (by omega) (by omega)
    rw [List.getD_eq_getElem?_getD, List.getElem?_eq_getElem (by omega)] at this
    rw [List.getElem_drop]
    exact this
  · obtain ⟨q, hq, rfl⟩ := List.mem_map.mp ha
    have ha2 : W q ≤ W k := by
      obtain ⟨j, hj, rfl⟩ := List.getElem_of_mem hq
      rw [List.length_take] at hj
      have := h1 j (by omega)
      rw [List.getD_eq_getElem?_getD, List.getElem?_eq_getElem (by omega)] at this
      rw [List.getElem_take]
      exact this
    rcases List.mem_cons.mp hb with rfl | hb
    · exact ha2
    · exact p3 _ ha _ hb
theorem ins_sorted {right : Bool} {row : List Nat} {W : Nat → Nat} {k : Nat} (h : (row.map W).Pairwise (· ≤ ·)) : ((insAt (insN right W row k) row k).map W).Pairwise (· ≤ ·) := by
  unfold insN
  cases right with
  | true =>
    simp only [if_true]
    obtain ⟨_, a, b, c⟩ := bis_spec (fun j => decide (W k < W (row.getD j 0))) row.length (fun i j h1 h2 h3 => by
      have := sorted_get h h1 h2
      simp only [decide_eq_true_eq] at h3 ⊢
      omega) row.length 0 row.length (Nat.le_refl _) (by omega) (Nat.zero_le _)
    refine ins_split h a (fun j hj => ?_) fun j h1 h2 => ?_
    · have := b j (Nat.zero_le _) hj
      simp only [decide_eq_false_iff_not] at this
      omega
    · have := c j h1 h2
      simp only [decide_eq_true_eq] at this
      omega
  | false =>
    simp only [Bool.false_eq_true, if_false]
    obtain ⟨_, a, b, c⟩ := bis_spec (fun j => decide (W k ≤ W (row.getD j 0))) row.length (fun i j h1 h2 h3 => by
      have := sorted_get h h1 h2
      simp only [decide_eq_true_eq] at h3 ⊢
      omega) row.length 0 row.length (Nat.le_refl _) (by omega) (Nat.zero_le _)
    refine ins_split h a (fun j hj => ?_) fun j h1 h2 => ?_
    · have := b j (Nat.zero_le _) hj
      simp only [decide_eq_false_iff_not] at this
      omega
    · have := c j h1 h2
      simp only [decide_eq_true_eq] at this
      omega
theorem insN_congr {right : Bool} {W W' : Nat → Nat} {row row' : List Nat} {k : Nat} (hl : row.length = row'.length) (h : ∀ j, j < row.length → W (row.getD j 0) = W' (row'.getD j 0)) (hk : W k = W' k) : insN right W row k = insN right W' row' k := by
  unfold insN
  rw [← hl]
  split
  · exact bis_congr _ _ _ fun j hj => by rw [h j hj, hk]
  · exact bis_congr _ _ _ fun j hj => by rw [h j hj, hk]
/-- the row behind the first five -/
structure Five (ws : List Nat) (k : Nat) (s : StW) : Prop where
  W : s.W = ws.take k
  p : s.parts = []
  pm : s.row.Perm (List.range k).reverse
  so : (s.row.map fun i => ws.getD i 0).Pairwise (· ≤ ·)
theorem take_getD {ws : List Nat} {k i : Nat} (h : i < k) : (ws.take k).getD i 0 = ws.getD i 0 := by
  rw [List.getD_eq_getElem?_getD, List.getD_eq_getElem?_getD, List.getElem?_take, if_pos h]
theorem five (right : Bool) (ws : List Nat) (hw : ws.length = 5) : ∀ k, k ≤ 5 → Five ws k (runW right ws k)
  | 0, _ => ⟨rfl, rfl, .nil, .nil⟩
  | k + 1, h => by
    obtain ⟨a, b, c, d⟩ := five right ws hw k (by omega)
    have e : runW right ws (k + 1) = layW right k (runW right ws k).row (runW right ws k).parts ((runW right ws k).W ++ [ws.getD k 0]) := by
      show stepW _ _ _ _ = _
      unfold stepW
      rw [if_pos (by omega)]
    have hW : (runW right ws k).W ++ [ws.getD k 0] = ws.take (k + 1) := by
      rw [a, List.take_add_one, List.getD_eq_getElem?_getD, List.getElem?_eq_getElem (by omega)]
      rfl
    rw [e, hW]
    have hlt : ∀ i ∈ (runW right ws k).row, i < k := fun i hi => by
      have := c.mem_iff.mp hi
      simpa using this
    have hi : insN right (fun i => (ws.take (k + 1)).getD i 0) (runW right ws k).row k = insN right (fun i => ws.getD i 0) (runW right ws k).row k := by
      refine insN_congr rfl (fun j hj => take_getD ?_) (take_getD (Nat.lt_succ_self k))
      rw [List.getD_eq_getElem?_getD, List.getElem?_eq_getElem hj]
      exact Nat.lt_succ_of_lt (hlt _ (List.getElem_mem hj))
    refine ⟨rfl, b, ?_, ?_⟩
    · show (insAt _ _ k).Perm _
      rw [List.range_succ, List.reverse_append]
      exact (insAt_perm _ _ k).trans (c.cons k)
    · show ((insAt _ _ k).map _).Pairwise _
      rw [hi]
      exact ins_sorted d
/- text P11 -/
theorem w_P11 : True := by
  w_top off
  exact trivial
noncomputable def runF (right : Bool) (s : StW) : Nat → StW
  | 0 => s
  | n + 1 => stepW right [] (5 + n) (runF right s n)
theorem runF_eq (right : Bool) (ws : List Nat) : ∀ n, runW right ws (5 + n) = runF right (runW right ws 5) n
  | 0 => rfl
  | n + 1 => by
    show stepW right ws (5 + n) (runW right ws (5 + n)) = _
    rw [runF, ← runF_eq right ws n]
    unfold stepW
    rw [if_neg (by omega), if_neg (by omega)]
structure Same (ρ : Nat → Nat) (k : Nat) (s s' : StW) : Prop where
  row : s.row = s'.row.map ρ
  parts : s.parts = s'.parts.map fun p => (ρ p.1, ρ p.2)
  wl : s.W.length = k
  wl' : s'.W.length = k
  W : ∀ i, i < k → s.W.getD (ρ i) 0 = s'.W.getD i 0
  lt : ∀ i ∈ s'.row, i < k
  len : s'.row.length = 10 - k
structure Rho (ρ : Nat → Nat) : Prop where
  lo : ∀ i, i < 5 → ρ i < 5
  hi : ∀ i, 5 ≤ i → ρ i = i
theorem Rho.lt {ρ : Nat → Nat} (h : Rho ρ) {i k : Nat} (hk : 5 ≤ k) (hi : i < k) : ρ i < k := by
  by_cases h5 : i < 5
  · have := h.lo i h5; omega
  · rw [h.hi i (by omega)]; exact hi
theorem same_step {ρ : Nat → Nat} (hρ : Rho ρ) {right : Bool} {k : Nat} {s s' : StW} (h5 : 5 ≤ k) (h9 : k < 9) (S : Same ρ k s s') : Same ρ (k + 1) (stepW right [] k s) (stepW right [] k s') := by
  obtain ⟨row, parts, W⟩ := s
  obtain ⟨row', parts', W'⟩ := s'
  obtain ⟨e1, e2, wl, wl', hW, lt, len⟩ := S
  dsimp only at e1 e2 wl wl' hW lt len
  subst e1 e2
  match row', len, lt with
  | [], len, _ => simp at len; omega
  | [_], len, _ => simp at len; omega
  | a :: b :: R, len, lt =>
    have ha := lt a (.head _)
    have hb := lt b (.tail _ (.head _))
    have hR : ∀ i ∈ R, i < k := fun i hi => lt i (.tail _ (.tail _ hi))
    have hv : W.getD (ρ a) 0 + W.getD (ρ b) 0 = W'.getD a 0 + W'.getD b 0 := by rw [hW a ha, hW b hb]
    have hk := hρ.hi k h5
    have e3 : ∀ i, i < k → (W ++ [W'.getD a 0 + W'.getD b 0]).getD (ρ i) 0 = (W' ++ [W'.getD a 0 + W'.getD b 0]).getD i 0 := by
      intro i hi
      rw [getD_snoc_lt (by rw [wl]; exact hρ.lt h5 hi), getD_snoc_lt (by rw [wl']; exact hi), hW i hi]
    have e4 : (W ++ [W'.getD a 0 + W'.getD b 0]).getD k 0 = (W' ++ [W'.getD a 0 + W'.getD b 0]).getD k 0 := by
      rw [getD_snoc_eq wl.symm, getD_snoc_eq wl'.symm]
    have hi : insN right (fun i => (W ++ [W'.getD a 0 + W'.getD b 0]).getD i 0) (R.map ρ) k = insN right (fun i => (W' ++ [W'.getD a 0 + W'.getD b 0]).getD i 0) R k := by
      refine insN_congr (by simp) (fun j hj => ?_) e4
      rw [List.length_map] at hj
      have e5 : (R.map ρ).getD j 0 = ρ (R.getD j 0) := by
        rw [List.getD_eq_getElem?_getD, List.getD_eq_getElem?_getD, List.getElem?_map, List.getElem?_eq_getElem hj]
        rfl
      rw [e5]
      refine e3 _ (hR _ ?_)
      rw [List.getD_eq_getElem?_getD, List.getElem?_eq_getElem hj]
      exact List.getElem_mem hj
    unfold stepW
    rw [if_neg (by omega), if_neg (by omega)]
    unfold layW
    have d1 : ((a :: b :: R).map ρ).drop 2 = R.map ρ := rfl
    have d2 : (a :: b :: R).drop 2 = R := rfl
    have d3 : ((a :: b :: R).map ρ).getD 0 0 = ρ a := rfl
    have d4 : ((a :: b :: R).map ρ).getD 1 0 = ρ b := rfl
    have d5 : (a :: b :: R).getD 0 0 = a := rfl
    have d6 : (a :: b :: R).getD 1 0 = b := rfl
    dsimp only
    rw [d1, d2, d3, d4, d5, d6, hv, hi]
    refine ⟨?_, ?_, ?_, ?_, ?_, ?_, ?_⟩
    · dsimp only
      rw [insAt_map, hk]
    · dsimp only
      rw [List.map_append]
      rfl
    · dsimp only
      rw [List.length_append, wl]; rfl
    · dsimp only
      rw [List.length_append, wl']; rfl
    · intro i hi
      dsimp only
      rcases Nat.lt_succ_iff_lt_or_eq.mp hi with hi | rfl
      · exact e3 i hi
      · rw [hk]; exact e4
    · intro i hi
      dsimp only at hi
      rcases mem_insAt.mp hi with rfl | hi
      · exact Nat.lt_succ_self _
      · exact Nat.lt_succ_of_lt (hR i hi)
    · dsimp only
      rw [(insAt_perm _ _ _).length_eq, List.length_cons]
      simp only [List.length_cons] at len
      omega
theorem same_run {ρ : Nat → Nat} (hρ : Rho ρ) {right : Bool} {s s' : StW} (S : Same ρ 5 s s') : ∀ n, n ≤ 4 → Same ρ (5 + n) (runF right s n) (runF right s' n)
  | 0, _ => S
  | n + 1, h => same_step hρ (show 5 ≤ 5 + n by omega) (show 5 + n < 9 by omega) (same_run hρ S n (by omega))
theorem leaves_map {ρ : Nat → Nat} (hρ : Rho ρ) (ps : List (Nat × Nat)) : ∀ n k j, leavesF (ps.map fun p => (ρ p.1, ρ p.2)) n (ρ k) j = (leavesF ps n k j).map fun L => L.map fun p => (ρ p.1, p.2)
  | 0, _, _ => rfl
  | n + 1, k, j => by
    rw [leavesF, leavesF]
    by_cases h5 : k < 5
    · rw [if_pos h5, if_pos (hρ.lo k h5)]
      rfl
    · have hk := hρ.hi k (by omega)
      rw [if_neg h5, hk, if_neg h5, List.getElem?_map]
      cases ps[k - 5]? with
      | none => rfl
      | some q =>
        dsimp only [Option.map_some]
        rw [leaves_map hρ ps n q.1 (j + 1), leaves_map hρ ps n q.2 (j + 1)]
        cases leavesF ps n q.1 (j + 1) with
        | none => rfl
        | some x =>
          cases leavesF ps n q.2 (j + 1) with
          | none => rfl
          | some y =>
            dsimp only [Option.map_some]
            rw [List.map_append]
noncomputable def fitL (right : Bool) (ws : List Nat) (L : List (Nat × Nat)) : Bool :=
  (L.map (·.1)).isPerm [0, 1, 2, 3, 4] && decide ((((L.map fun p => p.2 * ws.getD p.1 0).sum : Nat) : Int) = (G5 (sgOf right) ws).1) && decide (sgOf right * (((L.map (·.2)).foldl Nat.max 0 : Nat) : Int) = (G5 (sgOf right) ws).2)
noncomputable def fitF (right : Bool) (ws : List Nat) : Bool := match leavesF (runF right ⟨[0, 1, 2, 3, 4], [], ws⟩ 4).parts 6 8 0 with
  | none => false
  | some L => fitL right ws L
noncomputable def all5 (f : Nat → Bool) : Bool := f 0 && f 1 && f 2 && f 3 && f 4
noncomputable def upto (right : Bool) (e : Nat) : Bool := all5 fun a => all5 fun b => all5 fun c => all5 fun d => !(Nat.ble a b && Nat.ble b c && Nat.ble c d && Nat.ble d e) || fitF right [a, b, c, d, e]
theorem fitT : (all5 (upto true)) = true := by decide +kernel
theorem fitN : (all5 (upto false)) = true := by decide +kernel
/- text P12 -/
theorem w_P12 : True := by
  w_top off
  exact trivial
theorem all5_get {f : Nat → Bool} (h : all5 f = true) : ∀ i, i < 5 → f i = true := by
  unfold all5 at h
  simp only [Bool.and_eq_true] at h
  intro i hi
  match i, hi with
  | 0, _ => exact h.1.1.1.1
  | 1, _ => exact h.1.1.1.2
  | 2, _ => exact h.1.1.2
  | 3, _ => exact h.1.2
  | 4, _ => exact h.2
theorem fit_all {right : Bool} {a b c d e : Nat} (h1 : a ≤ b) (h2 : b ≤ c) (h3 : c ≤ d) (h4 : d ≤ e) (h5 : e ≤ 4) : fitF right [a, b, c, d, e] = true := by
  have h0 : all5 (upto right) = true := by cases right with
    | true => exact fitT
    | false => exact fitN
  have h6 := all5_get (all5_get (all5_get (all5_get (all5_get h0 e (by omega)) a (by omega)) b (by omega)) c (by omega)) d (by omega)
  simp only [Bool.or_eq_true, Bool.not_eq_true', Bool.and_eq_false_iff] at h6
  rcases h6 with h6 | h6
  · exfalso
    have t1 := Nat.ble_eq.mpr h1
    have t2 := Nat.ble_eq.mpr h2
    have t3 := Nat.ble_eq.mpr h3
    have t4 := Nat.ble_eq.mpr h4
    rw [t1, t2, t3, t4] at h6
    simp at h6
  · exact h6
theorem plain_end (right : Bool) (ws : List Nat) (hw : ws.length = 5) (hle : ∀ w ∈ ws, w ≤ 4) : ∃ L, leavesF (runW right ws 9).parts 6 8 0 = some L ∧ (L.map (·.1)).Perm [0, 1, 2, 3, 4] ∧
    (((L.map fun p => p.2 * ws.getD p.1 0).sum : Nat) : Int) = (G5 (sgOf right) ws).1 ∧ sgOf right * (((L.map (·.2)).foldl Nat.max 0 : Nat) : Int) = (G5 (sgOf right) ws).2 := by
  obtain ⟨fW, fp, fpm, fso⟩ := five right ws hw 5 (Nat.le_refl _)
  have hlen : (runW right ws 5).row.length = 5 := by rw [fpm.length_eq]; rfl
  have hlt : ∀ i ∈ (runW right ws 5).row, i < 5 := fun i hi => by
    have := fpm.mem_iff.mp hi
    simpa using this
  match e : (runW right ws 5).row, hlen with
  | [r0, r1, r2, r3, r4], _ =>
  rw [e] at fpm fso hlt
  have l0 := hlt r0 (by simp)
  have l1 := hlt r1 (by simp)
  have l2 := hlt r2 (by simp)
  have l3 := hlt r3 (by simp)
  have l4 := hlt r4 (by simp)
  let ρ : Nat → Nat := fun i => if i < 5 then [r0, r1, r2, r3, r4].getD i 0 else i
  have hρ : Rho ρ := by
    refine ⟨fun i hi => ?_, fun i hi => ?_⟩
    · show (if i < 5 then _ else _) < 5
      rw [if_pos hi]
      match i, hi with
      | 0, _ => exact l0
      | 1, _ => exact l1
      | 2, _ => exact l2
      | 3, _ => exact l3
      | 4, _ => exact l4
    · show (if i < 5 then _ else _) = i
      rw [if_neg (by omega)]
  have hws : ws.take 5 = ws := List.take_of_length_le (by omega)
  have S : Same ρ 5 (runW right ws 5) ⟨[0, 1, 2, 3, 4], [], [ws.getD r0 0, ws.getD r1 0, ws.getD r2 0, ws.getD r3 0, ws.getD r4 0]⟩ := by
    refine ⟨by rw [e]; rfl, fp, by rw [fW, hws, hw], rfl, fun i hi => ?_, fun i hi => ?_, rfl⟩
    · rw [fW, hws]
      match i, hi with
      | 0, _ => rfl
      | 1, _ => rfl
      | 2, _ => rfl
      | 3, _ => rfl
      | 4, _ => rfl
    · simp only [List.mem_cons, List.not_mem_nil, or_false] at hi
      omega
  have hg : ∀ i, ws.getD i 0 ≤ 4 := fun i => by
    rw [List.getD_eq_getElem?_getD]
    cases h : ws[i]? with
    | none => exact Nat.zero_le _
    | some v => exact hle v (List.mem_of_getElem? h)
  simp only [List.map_cons, List.map_nil, List.pairwise_cons, List.mem_cons, List.not_mem_nil, or_false, forall_eq_or_imp, forall_eq] at fso
  have hF := fit_all (right := right) fso.1.1 fso.2.1.1 fso.2.2.1.1 fso.2.2.2.1 (hg r4)
  have R := same_run hρ (right := right) S 4 (by omega)
  unfold fitF at hF
  cases hL : leavesF (runF right ⟨[0, 1, 2, 3, 4], [], [ws.getD r0 0, ws.getD r1 0, ws.getD r2 0, ws.getD r3 0, ws.getD r4 0]⟩ 4).parts 6 8 0 with
  | none => rw [hL] at hF; cases hF
  | some L' =>
    rw [hL] at hF
    simp only [fitL, Bool.and_eq_true, decide_eq_true_eq] at hF
    obtain ⟨⟨q1, q2⟩, q3⟩ := hF
    have hperm := List.isPerm_iff.mp q1
    have hG : G5 (sgOf right) [ws.getD r0 0, ws.getD r1 0, ws.getD r2 0, ws.getD r3 0, ws.getD r4 0] = G5 (sgOf right) ws := by
      have h1 := G5_perm (sgOf right) (fpm.map fun i => ws.getD i 0) [] (by simp)
      have h2 := G5_perm (sgOf right) ((List.reverse_perm (List.range 5)).map fun i => ws.getD i 0) [] (by simp)
      rw [List.nil_append, List.nil_append] at h1 h2
      rw [show [ws.getD r0 0, ws.getD r1 0, ws.getD r2 0, ws.getD r3 0, ws.getD r4 0] = [r0, r1, r2, r3, r4].map fun i => ws.getD i 0 from rfl, h1, h2]
      rfl
    refine ⟨L'.map fun p => (ρ p.1, p.2), ?_, ?_, ?_, ?_⟩
    · have h1 := runF_eq right ws 4
      rw [show (5 + 4 : Nat) = 9 from rfl] at h1
      rw [h1, R.parts]
      have h2 := leaves_map hρ (runF right ⟨[0, 1, 2, 3, 4], [], [ws.getD r0 0, ws.getD r1 0, ws.getD r2 0, ws.getD r3 0, ws.getD r4 0]⟩ 4).parts 6 8 0
      rw [show ρ 8 = 8 from rfl] at h2
      rw [h2, hL]
      rfl
    · rw [List.map_map]
      have h1 := hperm.map ρ
      rw [List.map_map] at h1
      refine h1.trans ?_
      show [r0, r1, r2, r3, r4].Perm _
      exact fpm.trans (by decide)
    · rw [List.map_map, ← hG, ← q2]
      congr 2
      refine List.map_congr_left fun p hp => ?_
      have hp5 : p.1 < 5 := by
        have := hperm.mem_iff.mp (List.mem_map.mpr ⟨p, hp, rfl⟩)
        simp only [List.mem_cons, List.not_mem_nil, or_false] at this
        omega
      show p.2 * ws.getD (ρ p.1) 0 = _
      congr 1
      match p.1, hp5 with
      | 0, _ => rfl
      | 1, _ => rfl
      | 2, _ => rfl
      | 3, _ => rfl
      | 4, _ => rfl
    · rw [List.map_map, ← hG, ← q3]
      rfl
/- text P13 -/
theorem w_P13 : True := by
  w_top off
  exact trivial
noncomputable def hj (way : Nat) : Nat → List Nat → List Nat
  | 0, l => l
  | j + 1, l => hj way j (l.flatMap (hc way))
theorem hj_app (way : Nat) : ∀ j (x y : List Nat), hj way j (x ++ y) = hj way j x ++ hj way j y
  | 0, _, _ => rfl
  | j + 1, x, y => by rw [hj, List.flatMap_append, hj_app way j]; rfl
theorem hj_sp (way : Nat) (l : List Nat) : ∀ j i, hj way j (spL way i l) = spL way (i + j) l
  | 0, _ => rfl
  | j + 1, i => by
    rw [hj, ← handL_eq, spL_next, hj_sp way l j (i + 1)]
    congr 1
    omega
theorem handS_list (way : Nat) (x : Str) : (handS way x).cps.toList = x.cps.toList.flatMap (hc way) := rfl
theorem leaves_text {right : Bool} {way : Nat} {zs T : List Str} (TO : TOk right way zs 9 T) : ∀ n k j L, k < 9 → leavesF (runW right (zs.map (wt way)) 9).parts n k j = some L →
    hj way j (T.getD k "").cps.toList = L.flatMap fun p => spL way p.2 (zs.getD p.1 "").cps.toList
  | 0, _, _, _, _, h => by cases h
  | n + 1, k, j, L, hk, h => by
    rw [leavesF] at h
    by_cases h5 : k < 5
    · rw [if_pos h5] at h
      cases h
      rw [TO.low k hk h5, handS_list, ← handL_eq, spL_zero, hj_sp, Nat.zero_add]
      simp
    · rw [if_neg h5] at h
      obtain ⟨q, h1, h2, h3, h4⟩ := TO.hi k hk (by omega)
      rw [h1] at h
      dsimp only at h
      cases ha : leavesF (runW right (zs.map (wt way)) 9).parts n q.1 (j + 1) with
      | none => rw [ha] at h; cases h
      | some x =>
        cases hb : leavesF (runW right (zs.map (wt way)) 9).parts n q.2 (j + 1) with
        | none => rw [ha, hb] at h; cases h
        | some y =>
          rw [ha, hb] at h
          cases h
          rw [h4, handS_list]
          show hj way (j + 1) _ = _
          rw [Str.cps_append, Array.toList_append, hj_app, leaves_text TO n q.1 (j + 1) x (by omega) ha, leaves_text TO n q.2 (j + 1) y (by omega) hb, List.flatMap_append]
noncomputable def pageS (way : Nat) (zs : List Str) (L : List (Nat × Nat)) : List Str := L.map fun p => ⟨(spL way p.2 (zs.getD p.1 "").cps.toList).toArray⟩
theorem page_eq {right : Bool} {way : Nat} {zs T : List Str} {L : List (Nat × Nat)} (TO : TOk right way zs 9 T) (hL : leavesF (runW right (zs.map (wt way)) 9).parts 6 8 0 = some L) : T.getD 8 "" = PySem.Txt.join ("" : Str) (pageS way zs L) := by
  have h := leaves_text TO 6 8 0 L (by omega) hL
  rw [join0]
  have e : (pageS way zs L).flatMap (·.cps.toList) = L.flatMap fun p => spL way p.2 (zs.getD p.1 "").cps.toList := by
    unfold pageS
    rw [List.flatMap_map]
  rw [e, ← h]
  show T.getD 8 "" = ⟨((T.getD 8 "").cps.toList).toArray⟩
  cases T.getD 8 "" with
  | mk c => simp
theorem sumInt : ∀ (l : List Nat), (l.map fun (n : Nat) => (n : Int)).sum = ((l.sum : Nat) : Int)
  | [] => rfl
  | a :: l => by rw [List.map_cons, List.sum_cons, List.sum_cons, sumInt l]; omega
theorem sum_add {α : Type} (f g : α → Nat) : ∀ l : List α, (l.map fun a => f a + g a).sum = (l.map f).sum + (l.map g).sum
  | [] => rfl
  | a :: l => by simp only [List.map_cons, List.sum_cons, sum_add f g l]; omega
theorem sum_mul4 {α : Type} (f : α → Nat) : ∀ l : List α, (l.map fun a => 4 * f a).sum = 4 * (l.map f).sum
  | [] => rfl
  | a :: l => by simp only [List.map_cons, List.sum_cons, sum_mul4 f l]; omega
theorem flat_len {α : Type} (f : α → List Nat) : ∀ l : List α, (l.flatMap f).length = (l.map fun a => (f a).length).sum
  | [] => rfl
  | a :: l => by simp only [List.flatMap_cons, List.length_append, List.map_cons, List.sum_cons, flat_len f l]
theorem page_len {way : Nat} {zs : List Str} {L : List (Nat × Nat)} (hz : zs.length = 5) (hp : (L.map (·.1)).Perm [0, 1, 2, 3, 4]) :
    (((PySem.Txt.join ("" : Str) (pageS way zs L)).length : Nat) : Int) - (zs.map fun z => (((spL way 0 z.cps.toList).length : Nat) : Int)).sum = 4 * (((L.map fun p => p.2 * (zs.map (wt way)).getD p.1 0).sum : Nat) : Int) := by
  have e1 : (PySem.Txt.join ("" : Str) (pageS way zs L)).length = (L.map fun p => (spL way p.2 (zs.getD p.1 "").cps.toList).length).sum := by
    rw [join0, str_len]
    show ((pageS way zs L).flatMap (·.cps.toList)).length = _
    unfold pageS
    rw [List.flatMap_map, flat_len]
  have e2 : (L.map fun p => (spL way p.2 (zs.getD p.1 "").cps.toList).length) = L.map fun p => (spL way 0 (zs.getD p.1 "").cps.toList).length + 4 * (p.2 * (zs.map (wt way)).getD p.1 0) := by
    refine List.map_congr_left fun p hpm => ?_
    have hp5 : p.1 < 5 := by
      have := hp.mem_iff.mp (List.mem_map.mpr ⟨p, hpm, rfl⟩)
      simp only [List.mem_cons, List.not_mem_nil, or_false] at this
      omega
    rw [spL_len]
    congr 3
    rw [List.getD_eq_getElem?_getD, List.getD_eq_getElem?_getD, List.getElem?_map, List.getElem?_eq_getElem (by omega)]
    rfl
  have e3 : (L.map fun p => (spL way 0 (zs.getD p.1 "").cps.toList).length).sum = (zs.map fun z => (spL way 0 z.cps.toList).length).sum := by
    have h1 := (hp.map fun i => (spL way 0 (zs.getD i "").cps.toList).length).sum_nat
    rw [List.map_map] at h1
    refine h1.trans ?_
    match zs, hz with
    | [a, b, c, d, e], _ => rfl
  have e4 : (zs.map fun z => (((spL way 0 z.cps.toList).length : Nat) : Int)).sum = (((zs.map fun z => (spL way 0 z.cps.toList).length).sum : Nat) : Int) := by
    rw [← sumInt, List.map_map]
    rfl
  rw [e1, e2, sum_add, sum_mul4, e3, e4]
  omega
theorem foldl_max : ∀ (l : List Nat) (b : Nat), b ≤ l.foldl Nat.max b ∧ (∀ a ∈ l, a ≤ l.foldl Nat.max b) ∧ (l.foldl Nat.max b = b ∨ l.foldl Nat.max b ∈ l)
  | [], b => ⟨Nat.le_refl _, (fun _ h => nomatch h), .inl rfl⟩
  | a :: l, b => by
    rw [List.foldl_cons]
    obtain ⟨h1, h2, h3⟩ := foldl_max l (Nat.max b a)
    have h4 : b ≤ Nat.max b a := Nat.le_max_left b a
    have h5 : a ≤ Nat.max b a := Nat.le_max_right b a
    refine ⟨Nat.le_trans h4 h1, fun c hc => ?_, ?_⟩
    · rcases List.mem_cons.mp hc with rfl | hc
      · exact Nat.le_trans h5 h1
      · exact h2 c hc
    · rcases h3 with h3 | h3
      · rw [h3]
        rcases Nat.le_total b a with h | h
        · exact .inr (by rw [show Nat.max b a = a from Nat.max_eq_right h]; exact .head _)
        · exact .inl (Nat.max_eq_left h)
      · exact .inr (.tail _ h3)
theorem max_eq {L : List (Nat × Nat)} {M : Int} (hM : M ∈ L.map fun p => ((p.2 : Nat) : Int)) (hle : ∀ a ∈ L.map (fun p => ((p.2 : Nat) : Int)), a ≤ M) : M = (((L.map (·.2)).foldl Nat.max 0 : Nat) : Int) := by
  obtain ⟨h1, h2, h3⟩ := foldl_max (L.map (·.2)) 0
  obtain ⟨p, hp, rfl⟩ := List.mem_map.mp hM
  have h4 := h2 p.2 (List.mem_map.mpr ⟨p, hp, rfl⟩)
  rcases h3 with h3 | h3
  · omega
  · obtain ⟨q, hq, e⟩ := List.mem_map.mp h3
    have := hle _ (List.mem_map.mpr ⟨q, hq, rfl⟩)
    omega
/- text P14 -/
theorem w_P14 : True := by
  w_top off
  exact trivial
theorem leaves_join (ps : List (Nat × Nat)) : ∀ n k j L, leavesF ps n k j = some L → ∀ p ∈ L, p.2 ≤ j + n
  | 0, _, _, _, h => by cases h
  | n + 1, k, j, L, h => by
    rw [leavesF] at h
    by_cases h5 : k < 5
    · rw [if_pos h5] at h
      cases h
      intro p hp
      rw [List.mem_singleton.mp hp]
      exact Nat.le_add_right _ _
    · rw [if_neg h5] at h
      cases h1 : ps[k - 5]? with
      | none => rw [h1] at h; cases h
      | some q =>
        rw [h1] at h
        dsimp only at h
        cases ha : leavesF ps n q.1 (j + 1) with
        | none => rw [ha] at h; cases h
        | some x =>
          cases hb : leavesF ps n q.2 (j + 1) with
          | none => rw [ha, hb] at h; cases h
          | some y =>
            rw [ha, hb] at h
            cases h
            intro p hp
            rcases List.mem_append.mp hp with hp | hp
            · have := leaves_join ps n q.1 (j + 1) x ha p hp; omega
            · have := leaves_join ps n q.2 (j + 1) y hb p hp; omega
theorem list_five {ws : List Nat} (h : ws.length = 5) : ∃ a b c d e, ws = [a, b, c, d, e] := by
  match ws, h with
  | [a, b, c, d, e], _ => exact ⟨a, b, c, d, e, rfl⟩
theorem G5_five (sg : Int) (a b c d e : Nat) : G5 sg [a, b, c, d, e] = g5 sg a b c d e := rfl
theorem best_G5 {sg : Int} {ws : List Nat} (h : ws.length = 5) : G5 sg ws = (bestS sg ws 31).getD 31 (0, 0) := by
  obtain ⟨a, b, c, d, e, e1⟩ := list_five h
  rw [e1, best_g5, G5_five]
structure LeavesOk (right : Bool) (way : Nat) (zs : List Str) (L : List (Nat × Nat)) : Prop where
  e : leavesF (runW right (zs.map (wt way)) 9).parts 6 8 0 = some L
  pm : (L.map (·.1)).Perm [0, 1, 2, 3, 4]
  k5 : ∀ p ∈ L, p.1 < 5
  j6 : ∀ p ∈ L, p.2 ≤ 6
  len : L.length = 5
  cost : (((L.map fun p => p.2 * (zs.map (wt way)).getD p.1 0).sum : Nat) : Int) = ((bestS (sgOf right) (zs.map (wt way)) 31).getD 31 (0, 0)).1
  deep : sgOf right * (((L.map (·.2)).foldl Nat.max 0 : Nat) : Int) = ((bestS (sgOf right) (zs.map (wt way)) 31).getD 31 (0, 0)).2
theorem leaves_ok (right : Bool) {way : Nat} {zs : List Str} (hl : zs.length = 5) (hz : ∀ z ∈ zs, Sig way z) : ∃ L, LeavesOk right way zs L := by
  obtain ⟨L, h1, h2, h3, h4⟩ := plain_end right (zs.map (wt way)) (by rw [List.length_map, hl]) (ws_le hz)
  have hG := best_G5 (sg := sgOf right) (ws := zs.map (wt way)) (by rw [List.length_map, hl])
  refine ⟨L, h1, h2, fun p hp => ?_, fun p hp => ?_, ?_, by rw [h3, hG], by rw [h4, hG]⟩
  · have := h2.mem_iff.mp (List.mem_map.mpr ⟨p, hp, rfl⟩)
    simp only [List.mem_cons, List.not_mem_nil, or_false] at this
    omega
  · have := leaves_join _ _ _ _ _ h1 p hp
    omega
  · have := h2.length_eq
    simpa using this
theorem pageS_succ {way : Nat} {zs : List Str} {L : List (Nat × Nat)} {i : Nat} {p : Nat × Nat} (h : L[i]? = some p) : pageS way zs (L.take (i + 1)) = pageS way zs (L.take i) ++ [⟨(spL way p.2 (zs.getD p.1 "").cps.toList).toArray⟩] := by
  unfold pageS
  rw [take_map_succ h]
/- text P15 -/
theorem w_P15 : True := by
  w_top off
  exact trivial
noncomputable abbrev pairO (x y : Str) (t u : Tok) : Obj := { cls := .type "tuple", data := .seq [Value.str x t, Value.str y u].toArray }
section
variable {prog : Program} {w : World} {A : Around} {E : Value → Shared → Prop} {s : Shared} {h₀ : Heap} {L : Addr} {news : List (Addr × Obj)}
theorem reads_pair {a : Addr} {x y : Str} {t u : Tok} (N : News h₀ L s.heap news) (ha : (a, pairO x y t u) ∈ news) : Reads s.heap (.ref a) (.tuple [.str x, .str y]) [] :=
  .tuple (N _ ha).1 rfl rfl (.cons (as := []) (.str _ _) (.cons (as := []) (.str _ _) .nil))
theorem nePairs {D D' a b c d : Addr} {x1 y1 x2 y2 : Str} {t1 u1 t2 u2 t3 u3 t4 u4 : Tok} {n n' : Nat} {Q : Value → Shared → Prop} (N : News h₀ L s.heap news) (hD : (D, listOf [Value.ref a, .ref b].toArray n) ∈ news) (ha : (a, pairO x1 y1 t1 u1) ∈ news) (hb : (b, pairO x2 y2 t2 u2) ∈ news)
    (hD' : (D', listOf [Value.ref c, .ref d].toArray n') ∈ news) (hc : (c, pairO x1 y1 t3 u3) ∈ news) (hd : (d, pairO x2 y2 t4 u4) ∈ news)
    (o1 : PyData.strOk x1 = true) (o2 : PyData.strOk y1 = true) (o3 : PyData.strOk x2 = true) (o4 : PyData.strOk y2 = true) (hu : A.units + 64 < cLine) (h : Q (.bool false) s) : wpAny (model prog w) A (compareOp .NotEq (.ref D) (.ref D')) Q E s := by
  have hsh : SeqAt.shaped (.list [.tuple [.str x1, .str y1], .tuple [.str x2, .str y2]]) = true := by
    simp [SeqAt.shaped, PyData.canLay0, PyData.canLayAll0, PyData.depth, PyData.depthAll, o1, o2, o3, o4]
  refine ne_dataH (da := .list [.tuple [.str x1, .str y1], .tuple [.str x2, .str y2]]) (db := .list [.tuple [.str x1, .str y1], .tuple [.str x2, .str y2]])
    (.list (N _ hD).1 rfl rfl (.cons (as := []) (reads_pair N ha) (.cons (as := []) (reads_pair N hb) .nil))) (.list (N _ hD').1 rfl rfl (.cons (as := []) (reads_pair N hc) (.cons (as := []) (reads_pair N hd) .nil))) hsh hsh hu ?_
  simpa [PyData.eqv, PyData.eqvAll] using h
end
theorem okV_wr {way : Nat} {x : Str} (hx : Wr way x) : OkV x := fun p hp => by
  have h1 := List.all_eq_true.mp hx (x.cps.getD p 0) (by
    rw [Array.getD_eq_getD_getElem?, Array.getElem?_eq_getElem hp]
    exact Array.getElem_mem_toList hp)
  unfold okW at h1
  rw [Bool.and_eq_true] at h1
  exact h1.1
theorem tup_pair {R : Row} {c : Nat} {v x : Str} (h1 : R.c = c) (h2 : R.v = v) (h3 : chr c = x) : tupO R = pairO x v R.kt R.vt := by
  subst h1 h2 h3
  rfl
theorem intsAre_get : ∀ {vs : List Value} {xs : List Int}, IntsAre vs xs → ∀ {k : Nat}, k < xs.length → ∃ t, vs[k]? = some (.int (xs.getD k 0) t)
  | _, _, .cons y t r, 0, _ => ⟨t, rfl⟩
  | _, _, .cons y t r, k + 1, h => intsAre_get r (Nat.lt_of_succ_lt_succ h)
theorem wt_len {way : Nat} {z : Str} : ((z.cps.toList.take z.cps.size).filter (inR way)).length = wt way z := by
  rw [List.take_of_length_le (by simp), ← List.countP_eq_length_filter]
  rfl
theorem sum_le_mem {α : Type} {f : α → Nat} {b : Nat} : ∀ {l : List α}, (∀ a ∈ l, f a ≤ b) → (l.map f).sum ≤ b * l.length
  | [], _ => Nat.zero_le _
  | a :: l, h => by
    have h1 := h a (.head _)
    have h2 := sum_le_mem (f := f) (b := b) (l := l) fun c hc => h c (.tail _ hc)
    rw [List.map_cons, List.sum_cons, List.length_cons, Nat.mul_succ]
    omega
theorem spL_le {way j : Nat} {l : List Nat} (hj : j ≤ 100) (hl : l.length ≤ 4) : (spL way j l).length ≤ 1628 := by
  unfold spL
  rw [flat_len]
  have h1 := sum_map_le (f := fun c => (spC way j c).length) (b := 407) (fun a => spC_len hj) l
  omega
theorem pageS_fits {right : Bool} {way : Nat} {zs : List Str} {L : List (Nat × Nat)} (LO : LeavesOk right way zs L) (hl : zs.length = 5) (hz : ∀ z ∈ zs, Sig way z) : ((pageS way zs L).map (fun x : Str => x.length)).sum ≤ 8140 := by
  unfold pageS
  rw [List.map_map]
  have h1 := sum_le_mem (f := (fun x : Str => x.length) ∘ fun p : Nat × Nat => (⟨(spL way p.2 (zs.getD p.1 "").cps.toList).toArray⟩ : Str)) (b := 1628) (l := L) (fun p hp => by
    show (spL way p.2 (zs.getD p.1 "").cps.toList).toArray.size ≤ 1628
    rw [List.size_toArray]
    have h5 := LO.k5 p hp
    have h6 := LO.j6 p hp
    exact spL_le (by omega) (hz _ (getD_mem (by omega))).1)
  rw [LO.len] at h1
  omega
theorem page_short {right : Bool} {way : Nat} {zs : List Str} {L : List (Nat × Nat)} (LO : LeavesOk right way zs L) (hl : zs.length = 5) (hz : ∀ z ∈ zs, Sig way z) : (PySem.Txt.join ("" : Str) (pageS way zs L)).length ≤ 8140 := by
  have h := pageS_fits LO hl hz
  have e1 : (PySem.Txt.join ("" : Str) (pageS way zs L)).length = ((pageS way zs L).map (fun x : Str => x.length)).sum := by
    rw [join0, str_len]
    show ((pageS way zs L).flatMap (·.cps.toList)).length = _
    rw [flat_len]
    congr 1
  omega
theorem page_le {right : Bool} {way : Nat} {zs T : List Str} {L : List (Nat × Nat)} (TO : TOk right way zs 9 T) (LO : LeavesOk right way zs L) (hl : zs.length = 5) (hz : ∀ z ∈ zs, Sig way z) : (T.getD 8 "").length ≤ 10000 := by
  have h := page_short LO hl hz
  rw [← page_eq TO LO.e] at h
  omega
noncomputable def spS (way : Nat) (z : Str) : Str := ⟨(spL way 0 z.cps.toList).toArray⟩
theorem spS_len {way : Nat} {z : Str} : (spS way z).length = (spL way 0 z.cps.toList).length := by
  show (spL way 0 z.cps.toList).toArray.size = _
  rw [List.size_toArray]
theorem end_eq {right : Bool} {way : Nat} {zs T : List Str} {L : List (Nat × Nat)} (LO : LeavesOk right way zs L) (hl : zs.length = 5) (TO : TOk right way zs 9 T) :
    (((T.getD 8 "").length : Nat) : Int) - (zs.map fun z => (((spS way z).length : Nat) : Int)).sum = 4 * ((bestS (sgOf right) (zs.map (wt way)) 31).getD 31 (0, 0)).1 := by
  have h := page_len (way := way) (zs := zs) (L := L) hl LO.pm
  rw [page_eq TO LO.e, ← LO.cost, ← h]
  congr 3
theorem spS_fit {way : Nat} {z : Str} (h : z.cps.toList.length ≤ 4) : Str.length ⟨(spL way 0 z.cps.toList).toArray⟩ ≤ 10000 := by
  have h1 := spL_le (way := way) (j := 0) (by omega) h
  have h2 := spS_len (way := way) (z := z)
  unfold spS at h2
  omega
/- text P16 -/
theorem w_P16 : True := by
  w_top off
  exact trivial
theorem post_ok {c : ClaimW} (hc : c = PySem.Challenge.rw_uk0026_01.row.toRowW.claim) (xs : List Int) : c.post [ofPy (PyData.list (xs.map PyData.int))] (.bool true) [ofPy (PyData.list (xs.map PyData.int))] = true := by
  subst hc
  wrow_post
theorem none_ok {c : ClaimW} (hc : c = PySem.Challenge.rw_uk0026_01.row.toRowW.claim) (args) (cls) : c.raises args cls = false := by
  subst hc
  exact raisesW_false (by wrow_none_raised) cls
/- text V1 -/
theorem w_V1 : True := by
  w_top off
  exact trivial
section
noncomputable def StopL (prog : Program) (w : World) (A : Around) (t : Sem Value) (Q E : Value → Shared → Prop) (s : Shared) : Prop := wpAny (model prog w) A t Q E s
theorem stopL {prog : Program} {w : World} {A : Around} {f : Nat} {args : List Value} {Q E : Value → Shared → Prop} {s : Shared} (hf : ([273, 280, 297, 316, 328, 292, 321] : List Nat).contains f = true) (h : StopL prog w A (call (.ref f) args) Q E s) : wpAny (model prog w) A (call (.ref f) args) Q E s := h
local macro_rules | `(tactic| walk_at "call ref") => `(tactic| (k_here; refine stopL (by decide) ?_))
local macro_rules | `(tactic| walk_at "subscriptTail Name Constant ref int") => `(tactic| (k_here; (with_reducible show wpAny _ _ (subscriptTail _ _ (Value.ref _) (Value.int _ _)) _ _ _); refine stopSub ?_))
structure CutM3 : Prop where
  out : True
local macro_rules | `(tactic| walk_at "exec Assign cons IfExp") => `(tactic| (k_here; (rename CutM3 => cm); clear cm; refine If_cut ?_))
local macro_rules | `(tactic| walk_at "exec Assign") => `(tactic| (k_here; (rename CutM3 => cm); clear cm; refine If_cut ?_))
theorem nameS {s : Shared} {tabs : List (Addr × Addr)} {h : Heap} {l : List (Addr × Obj)} (_N : News (ghostOf s.heap tabs) s.heap.objs.size h l) : ∃ s', s' = s := ⟨_, rfl⟩
theorem nameM {g : Heap} {L : Addr} {h : Heap} {m : Str → Option Value} (_F : Fr g L h m) : ∃ M, M = m := ⟨_, rfl⟩
theorem eqNilF {prog : Program} {w : World} {A : Around} {E : Value → Shared → Prop} {s : Shared} {h₀ : Heap} {L : Addr} {news : List (Addr × Obj)} {a b : Addr} {v : Value} {vs : List Value} {n n' : Nat} {Q : Value → Shared → Prop} (N : News h₀ L s.heap news) (ha : (a, listOf (v :: vs).toArray n) ∈ news) (hb : (b, listOf #[] n') ∈ news) (hu : A.units + 64 < cLine)
    (h : Q (.bool false) s) : wpAny (model prog w) A (compareOp .Eq (.ref a) (.ref b)) Q E s :=
  PySem.EqBoolInt.of_rc (SeqAt.RcAt.lists_lengths ⟨_, (N _ ha).1, rfl, n, rfl⟩ ⟨_, (N _ hb).1, rfl, n', rfl⟩ (by simp) (by omega)) h
local macro_rules | `(tactic| walk_at "compareOp Eq ref ref") => `(tactic| (k_here; k_dflt (refine' eqNilF ?N ?a ?b ?u ?_; (case N => k_asm); (case a => k_mem); (case b => k_mem); (case u => first | ktr_units | ke_room))))
local macro_rules | `(tactic| walk_at "subscriptTail Name Name ref int") => `(tactic| (k_here; (with_reducible show wpAny _ _ (subscriptTail _ _ (Value.ref _) (Value.int _ _)) _ _ _); k_dflt (refine' item_strK ?N ?m ?t ?k ?k2 ?_; (case N => k_asm); (case m => k_mem); (case t => assumption); (case k => first | assumption | omega); (case k2 => omega)); intro t9))
local macro_rules | `(tactic| walk_at "compareOp NotEq ref ref") => `(tactic| (k_here; refine stopSub ?_))
local macro_rules | `(tactic| walk_at "compareOp In str ref") => `(tactic| (k_here; refine stopSub ?_))
theorem lenS {prog : Program} {w : World} {A : Around} {E : Value → Shared → Prop} {s : Shared} {x : Str} {t : Tok} {Q : Value → Shared → Prop} (hx : Box (x.length ≤ 10000)) (h : Q (.int x.length (s.toks + 1)) { s with toks := s.toks + 1 + 1 }) : wpAny (model prog w) A (call (.builtin "len") [.str x t]) Q E s :=
  PySem.P.len_str (by have := hx.out; omega) h
local macro_rules | `(tactic| walk_at "call builtin:len") => `(tactic| (k_here; (with_reducible show wpAny _ _ (call (Value.builtin _) [Value.str _ _]) _ _ _); refine lenS (by assumption) ?_))
structure CutM4 : Prop where
  out : True
local macro_rules | `(tactic| walk_at "call builtin:len") => `(tactic| (k_here; (with_reducible show wpAny _ _ (call (Value.builtin _) [Value.ref _]) _ _ _); (rename CutM4 => cm4); refine stopSub ?_))
theorem wayTail {M : Str → Option Value} {v c : Option Value} (h : M "way" = c) : (fun y => if y = ("sign" : Str) then v else M y) = fun y => if y = ("sign" : Str) then v else if y = ("way" : Str) then c else M y := by
  funext y
  by_cases h1 : y = "sign"
  · rw [if_pos h1, if_pos h1]
  · rw [if_neg h1, if_neg h1]
    by_cases h2 : y = "way"
    · rw [if_pos h2, h2, h]
    · rw [if_neg h2]
theorem nameI {vs : List Value} {xs : List Int} (_h : IntsAre vs xs) : ∃ v' x', v' = vs ∧ x' = xs := ⟨_, _, rfl, rfl⟩
theorem nameL {h : Heap} {a : Addr} {r : Array Value} (_h : h.IsList a r) : ∃ a', a' = a := ⟨_, rfl⟩
theorem CxL.use {w : World} {d u : Nat} {P : Addr} {xs : List Value} {news : List (Addr × Obj)} {t : Sem Value} {post : Value → List (Addr × Obj) → Prop} (C : CxL w d u P xs news t post)
  {loose : List Str} {mean : ExcName → Option Value} {mg mb : Str → Option Value} {dp un : Nat} {gd : Option (List Code)} {cn : Str} {cs : Scope} {a : Addr} {ccd : Value} {cl : List (Str × Addr)} {outer : List Env} {A₀ : Around} {base h₀ : Heap} {L : Addr} {m : Str → Option Value} {s : Shared} {Q E : Value → Shared → Prop}
   (B : Below A₀ base outer h₀) (F : Fr h₀ L s.heap m) (X : Frag.In (hd.heap_1 w.params) h₀) (N : News h₀ L s.heap news) (T : Top topProg loose mean mg mb h₀) (hl : h₀.IsList P xs.toArray) (hk : cs.kind = .function) (h1 : dp + d < recursionLimit) (h2 : un + u < cLine)
   (h : ∀ r news' h' tk', post r news' → Fr h₀ L h' m → News h₀ L h' news' → Q r {s with heap := h', toks := tk'}) :
   wpAny (model PySem.Challenge.rw_uk0026_01.row.prog w) (ktrTop dp un gd cn cs L a ccd cl outer) t Q E s := C loose mean mg mb dp un gd cn cs a ccd cl outer A₀ base h₀ L m s Q E B F X N T hl hk h1 h2 h
theorem ordN6 {g : Heap} {L : Addr} {h : Heap} {a b c d e f : Addr × Obj} (N : News g L h [a, b, c, d, e, f]) : News g L h (f :: [a, b, c, d, e]) := by
  repeat (refine nc (nm N (by repeat (first | exact .head _ | refine .tail _ ?_))) ?_)
  exact fun p hp => nomatch hp
theorem newsAdd {g : Heap} {L : Addr} {h : Heap} {l r : List (Addr × Obj)} (N : News g L h r) (hs : ∀ p ∈ l, p ∈ r) : News g L h (l ++ r) := fun p hp => N p ((List.mem_append.mp hp).elim (hs p) id)
local macro_rules | `(tactic| walk_at "call builtin:max") => `(tactic| (k_here; refine stopSub ?_))
local macro_rules | `(tactic| walk_at "binaryOp Mult int int") => `(tactic| (k_here; (with_reducible show wpAny _ _ (binaryOp _ (Value.int (sgOf _) _) _) _ _ _); refine stopSub ?_))
theorem law_ : PySem.Challenge.rw_uk0026_01.Holds := by
  refine hd ?_
  k_go0
  all_goals try k_fold
  generalize hG : @GoodW _ _ _ _ _ = GW
  revert GW
  refine idG ?_
  intro GW hG
  rename IntsAre _ _ => hI
  rename Heap.IsList (ghostOf _ _) _ _ => hli
  rename News _ _ _ [_, _, (306, tabObj #[])] => nN
  rename ¬ _ < _ => hlen
  obtain ⟨S1, eS⟩ := nameS nN
  subst eS
  obtain ⟨s1, s2, s3, s4, s5⟩ := S1
  dsimp only at *
  obtain ⟨vs, xs, e1, e2⟩ := nameI hI
  subst e1 e2
  obtain ⟨P, eP⟩ := nameL hli
  subst eP
  have hvl := IntsAre.length hI
  have hx63 : xs.length ≤ 63 := by omega
  k_steps
  unfold StopL
  refine' CxL.use (cells_ _ P vs xs _ hI (by omega)) (by k_asm) (by k_asm) (by k_asm) nN (by k_asm) hli (by first | exact rfl | assumption) (by ktr_room) (by ktr_units) ?_
  rintro r1 n1 h1 tk1 ⟨DC, epc, us, rfl, rfl, hus, lDC⟩ F1 N1
  k_steps
  obtain ⟨z5, t5, hz5, hz5l⟩ := hus.2 5 (by decide)
  unfold StopS
  refine item_listL (l := us) (x := .int (z5 : Nat) t5) (News.isList (by k_asm) (by k_mem)) (by decide) (by decide) (by rw [show Int.toNat 5 = 5 from rfl]; exact hz5) ?_
  k_steps
  have hway : ((z5 : Int) + (xs.length : Nat)).fmod 5 = (((z5 + xs.length) % 5 : Nat) : Int) := by
    rw [Int.fmod_eq_emod_of_nonneg _ (by omega)]
    omega
  rename Fr _ _ _ _ => kF
  rw [hway] at kF ⊢
  have hw5 : (z5 + xs.length) % 5 < 5 := Nat.mod_lt _ (by decide)
  generalize (z5 + xs.length) % 5 = way at hw5 kF hway ⊢
  have dc1 := ltN (lDC _ (.head _))
  have dc2 := ltN (lDC _ (.tail _ (.head _)))
  have dc3 := ltN (lDC _ (.tail _ (.tail _ (.head _))))
  dsimp only at dc1 dc2 dc3
  unfold StopL
  refine' Cx.use (refs_ _ way hw5 _ _) (by k_asm) (by k_asm) (by k_asm) (by k_asm) (by k_asm) (by first | exact rfl | assumption) (by ktr_room) (by ktr_units) ?_
  rintro r2 n2 h2 tk2 ⟨DR, oR, rfl, rfl, lDR, hRD⟩ F2 N2
  have dr0 := ltN (lDR _ (.head _))
  have dr1 := ltN (lDR _ (.tail _ (.head _)))
  have dr2 := ltN (lDR _ (.tail _ (.tail _ (.head _))))
  have dr3 := ltN (lDR _ (.tail _ (.tail _ (.tail _ (.head _)))))
  dsimp only at dr0 dr1 dr2 dr3
  k_steps
  unfold StopL
  rename News _ _ _ ((DR, oR) :: _) => nR
  refine' Cx.use (texts_ _ DC DR us _ oR way hw5 _ (by k_mem) hus (by k_mem) hRD) (by k_asm) (by k_asm) (by k_asm) nR (by k_asm) (by first | exact rfl | assumption) (by ktr_room) (by ktr_units) ?_
  rintro r3 n3 h3 tk3 ⟨DT, ept, ts, zs, rfl, hmT, hsub3, hts, hzl, hzs, lDT⟩ F3 N3
  have N4 : News _ _ h3 ((DT, listOf ts.toArray ept) :: _) := fun p hp => N3 p ((List.mem_cons.mp hp).elim (fun e => e ▸ hmT) (hsub3 p))
  have dt0 := ltN (lDT _ (.head _))
  have dt1 := ltN (lDT _ (.tail _ (.head _)))
  have dt2 := ltN (lDT _ (.tail _ (.tail _ (.head _))))
  have dt3 := ltN (lDT _ (.tail _ (.tail _ (.tail _ (.head _)))))
  have dt4 := ltN (lDT _ (.tail _ (.tail _ (.tail _ (.tail _ (.head _))))))
  dsimp only at dt0 dt1 dt2 dt3 dt4
  clear N3 hmT hsub3
  have cm : CutM3 := ⟨trivial⟩
  k_steps
  rename Fr _ _ _ _ => kF
  rename News _ _ _ ((DT, _) :: _) => kN
  obtain ⟨M0, hM⟩ := nameM kF
  obtain ⟨NL, hNL⟩ := led kN
  unfold IfM
  refine wpAny_mono (E := fun _ _ => False) (Q := fun f s' => Box (f = .next ∧ ∃ (right : Bool) (t : Tok) (h' : Heap) (tk' : Nat), s' = ⟨h', s2, s3, tk', s5⟩ ∧ Fr (ghostOf s1 [(310, 306)]) s1.objs.size h' (fun y => if y = ("sign" : Str) then some (.int (sgOf right) t) else M0 y) ∧ News (ghostOf s1 [(310, 306)]) s1.objs.size h' NL)) ?_ ?_ (fun _ _ h => h.elim)
  · subst hM hNL
    k_steps
    · exact ⟨⟨by first | exact rfl | trivial, true, _, _, _, rfl, by k_asm, by k_asm⟩⟩
    · exact ⟨⟨by first | exact rfl | trivial, false, _, _, _, rfl, by k_asm, by k_asm⟩⟩
  clear kF kN
  rintro f s' ⟨rfl, right, tS, h5, tk5, rfl, F5, N5⟩
  obtain ⟨tw0, hw0⟩ : ∃ t0 : Tok, M0 "way" = some (.int (way : Nat) t0) := ⟨_, by rw [hM]; rfl⟩
  have F6 := Eq.mp (congrArg (Fr (ghostOf s1 [(310, 306)]) s1.objs.size h5) (wayTail (v := some (.int (sgOf right) tS)) hw0)) F5
  clear F5 hM hw0
  subst hNL
  try dsimp only
  k_steps
  unfold StopL
  rw [show (sgOf right == 1) = right by cases right <;> rfl]
  rename News _ _ _ [(DT, _), _, _, _, _, _] => kN
  rename 306 < s1.objs.size => l0
  have l0' := ltN l0
  refine' Cx.use (run_ _ DT ept ts zs way right _ _ hw5 ⟨hts⟩ hzl hzs (.head _) ?h3) (by k_asm) (by k_asm) (by k_asm) (ordN6 kN) (by k_asm) (by first | exact rfl | assumption) (by ktr_room) (by ktr_units) ?_
  case h3 =>
    intro p hp
    simp only [List.mem_cons, List.not_mem_nil, or_false] at hp
    rcases hp with rfl | rfl | rfl | rfl | rfl
    · exact neN (by dsimp only; omega)
    · exact neN (by dsimp only; omega)
    · exact neN (by dsimp only; omega)
    · exact neN (by dsimp only; omega)
    · exact neN (by dsimp only; omega)
  rintro r6 n6 h6 tk6 ⟨TT, D, pa, epD, epp, two, R1, R2, T9, ps, RP⟩ F6 N6
  obtain rfl := RP.r
  have N7 := newsAdd (l := [(TT, _), (D, _), _, _, (306, _), (DT, _), (DR, oR)]) N6 (by
    intro p hp
    simp only [List.mem_cons, List.not_mem_nil, or_false] at hp
    rcases hp with rfl | rfl | rfl | rfl | rfl | rfl | rfl
    · exact RP.tt
    · exact RP.d
    · exact RP.sub _ (.tail _ (.tail _ (.tail _ (.head _))))
    · exact RP.sub _ (.tail _ (.tail _ (.tail _ (.tail _ (.head _)))))
    · exact RP.p3
    · exact RP.sub _ (.head _)
    · exact RP.sub _ (.tail _ (.head _)))
  dsimp only [List.cons_append, List.nil_append] at N7
  clear kN
  have hRP := RP.d
  k_steps
  unfold StopL
  obtain ⟨L, LO⟩ := leaves_ok right hzl hzs
  have hBox : Box (StrsAre ts zs) := ⟨hts⟩
  have hzl2 : zs.length ≤ 100 := by omega
  rename News _ _ _ (_ :: (TT, _) :: _) => nL
  have htl : two.length ≤ 100 := by
    have h1 := congrArg List.length RP.ij
    have h2 := (runW_inv (right := right) (ws_le hzs) 9 (by omega)).pl
    rw [List.length_map] at h1
    omega
  refine' Cx.use (leaves_ _ pa epp two 6 8 0 _ _ _ L (by rw [RP.ij]; exact LO.e) (by decide) htl ?hP ?hps) (by k_asm) (by k_asm) (by k_asm) nL (by k_asm) (by first | exact rfl | assumption) (by ktr_room) (by ktr_units) ?_
  case hP => exact .tail _ (.tail _ (.tail _ (.tail _ (.tail _ (.tail _ (.tail _ (.tail _ RP.pa)))))))
  case hps => exact fun p hp => .tail _ (.tail _ (.tail _ (.tail _ (.tail _ (.tail _ (.tail _ (.tail _ (RP.tw p hp))))))))
  rintro r7 n7 h7 tk7 ⟨DL, epl, ls, rfl, hmL, hls, hs7, hij⟩ F7 N8
  have N9 := newsAdd (l := [(DL, _), (D, _), _, _, (306, _), (DT, _), (DR, oR)]) N8 (by
    intro p hp
    simp only [List.mem_cons, List.not_mem_nil, or_false] at hp
    rcases hp with rfl | rfl | rfl | rfl | rfl | rfl | rfl
    · exact hmL
    · exact hs7 _ (.tail _ (.tail _ (.head _)))
    · exact hs7 _ (.tail _ (.tail _ (.tail _ (.head _))))
    · exact hs7 _ (.tail _ (.tail _ (.tail _ (.tail _ (.head _)))))
    · exact hs7 _ (.tail _ (.tail _ (.tail _ (.tail _ (.tail _ (.head _))))))
    · exact hs7 _ (.tail _ (.tail _ (.tail _ (.tail _ (.tail _ (.tail _ (.head _)))))))
    · exact hs7 _ (.tail _ (.tail _ (.tail _ (.tail _ (.tail _ (.tail _ (.tail _ (.head _)))))))))
  dsimp only [List.cons_append, List.nil_append] at N9
  clear N8 nL
  k_steps
  rename News _ _ _ ((DL, _) :: _) => nA
  have hlL : ls.length = 5 := by rw [← LO.len, ← hij, List.length_map]
  refine comp_walk0 rfl (by k_asm) nA (src_list (l := DL) (vs := twos ls) (nn := epl) nA (.head _)) (fun p hp => by rw [List.mem_singleton.mp hp]; exact .head _) (by decide) rfl (fun i ys => StrsAre ys (pageS way zs (L.take i))) .nil (by rw [List.length_map]; omega) ?_ ?_
  · rintro i v ys I1 D1 C1 oI1 oC1 h8 tk8 hi hv hlen3 hJ off8 F8 N8 ⟨mc8, hns8⟩ ZZ hZZ
    rw [List.getElem?_map] at hv
    obtain ⟨l, hl, rfl⟩ := Option.map_eq_some_iff.mp hv
    have hl1 := hls l (List.mem_of_getElem? hl)
    have hLi : L[i]? = some (l.i, l.j) := by rw [← hij, List.getElem?_map, hl]; rfl
    have hk5 := LO.k5 _ (List.mem_of_getElem? hLi)
    have hj6 := LO.j6 _ (List.mem_of_getElem? hLi)
    dsimp only at hk5 hj6
    have hk5z : l.i < zs.length := by omega
    have hx9 := (hzs _ (getD_mem (k := l.i) hk5z)).1
    k_steps
    unfold StopL
    rename News _ _ _ ((C1, _) :: _) => nB
    refine' Cx.use (spelled_ _ DR oR way (zs.getD l.i "") _ _ l.j (by omega) (by omega) _ (by k_mem) hRD) (by k_asm) (by k_asm) (by k_asm) nB (by k_asm) (by first | exact rfl | assumption) (by ktr_room) (by ktr_units) ?_
    rintro r9 n9 h9 tk9 ⟨⟨t', rfl⟩, hs9⟩ F9 N9
    refine Hid.out hZZ ?_
    exact ⟨_, _, _, _, rfl, F9, fun p hp => N9 p (hs9 p hp), by k_asm, by rw [pageS_succ hLi]; exact strsAre_snoc hJ⟩
  · rintro ys DP h8 tk8 hlen8 hJ hDP F8 N8
    rw [List.length_map, hlL, List.take_of_length_le (by rw [LO.len]; exact Nat.le_refl 5)] at hJ
    dsimp only
    k_steps
    have hfits := pageS_fits LO hzl hzs
    refine join_list (D := DP) (items := ys.toArray) (News.isList (by k_asm) (by k_mem)) hJ ?_ ?_
    · have e0 : ("" : Str).length = 0 := rfl
      rw [e0]
      omega
    intro t9 k9
    rw [← page_eq RP.T LO.e]
    k_steps
    unfold StopS
    rename News _ _ _ (_ :: _ :: _ :: (DP, _) :: _) => nC
    have hr1 := hs7 _ (.tail _ (.tail _ (.tail _ (.tail _ (.tail _ (.tail _ (.tail _ (.tail _ RP.r1))))))))
    have hr2 := hs7 _ (.tail _ (.tail _ (.tail _ (.tail _ (.tail _ (.tail _ (.tail _ (.tail _ RP.r2))))))))
    rw [tup_pair RP.c1 RP.v1 (x := "J") (by decide)] at hr1
    rw [tup_pair RP.c2 RP.v2 (x := "I") (by decide)] at hr2
    refine nePairs (a := R1.a) (b := R2.a) (n := epD) (t1 := R1.kt) (u1 := R1.vt) (t2 := R2.kt) (u2 := R2.vt) nC ?hD ?ha ?hb (.head _) (.tail _ (.tail _ (.head _))) (.tail _ (.head _)) (by decide +kernel) (by decide +kernel) (by decide +kernel) (strOk_v (okV_wr (RP.T.wr 8 (by omega)).1)) (by first | ktr_units | ke_room) ?_
    case hD => exact .tail _ (.tail _ (.tail _ (.tail _ (.tail _ (.head _)))))
    case ha => repeat (first | exact hr1 | refine List.Mem.tail _ ?_)
    case hb => repeat (first | exact hr2 | refine List.Mem.tail _ ?_)
    clear hr1 hr2
    k_steps
    rename News _ _ _ _ => nD
    have htl5 : ts.length = 5 := by rw [strsAre_len hts, hzl]
    obtain ⟨hlo, kvs, hkv, hro⟩ := id hRD
    refine comp_walk0 rfl (by k_asm) nD (src_list (l := DT) (vs := ts) (nn := ept) nD (by k_mem)) (fun p hp => by rw [List.mem_singleton.mp hp]; k_mem) (by decide) rfl (fun i ys => IntsAre ys ((zs.take i).map fun z => ((wt way z : Nat) : Int))) .nil (by omega) ?_ ?_
    · rintro i v ys2 I1 D1 C1 oI1 oC1 h9 tk9 hi hv hlen3 hJ2 off9 F9 N9 ⟨mc9, hns9⟩ ZZ hZZ
      obtain ⟨tv, htv⟩ := strsAre_get hts (k := i) (by omega)
      rw [htv] at hv
      cases hv
      have hzi : zs[i]? = some (zs.getD i "") := by
        rw [List.getD_eq_getElem?_getD, List.getElem?_eq_getElem (by omega)]
        rfl
      have hx9 := (hzs _ (getD_mem (k := i) (by omega))).1
      generalize hz9 : zs.getD i "" = z at hx9 hzi
      k_steps
      rename News _ _ _ ((C1, _) :: _) => nE
      refine comp_walk0 rfl (by k_asm) nE src_str (fun p hp => nomatch hp) (by decide) rfl (fun i ys => ys.length = ((z.cps.toList.take i).filter (inR way)).length) rfl (by rw [← Array.length_toList]; omega) ?_ ?_
      · rintro i2 v2 ys3 I2 D2 C2 oI2 oC2 h10 tk10 hi2 hv2 hlen4 hJ3 off10 F10 N10 ⟨mc10, hns10⟩ ZZ hZZ
        obtain ⟨c, u, hc, rfl⟩ := hv2
        have hc2 : z.cps.toList[i2]? = some c := by rw [Array.getElem?_toList]; exact hc
        k_steps
        unfold StopS
        refine kda_in (knd := PySem.strKind _ _) (by k_asm) (by k_mem) hkv hlo (strKind_is _ _ _ _) (inR way c) (hro.isSome c) ?_
        cases hin : inR way c
        · k_steps
          exact ⟨_, _, _, _, rfl, by k_asm, by k_asm, by k_asm, by rw [take_filter_succ hc2, hin]; simpa using hJ3⟩
        · k_steps
          exact ⟨_, _, _, _, rfl, by k_asm, by k_asm, by k_asm, by
            show (ys3 ++ [_]).length = _
            rw [take_filter_succ hc2, hin, List.length_append, List.length_append, hJ3]
            rfl⟩
      · rintro ys3 D2 h10 tk10 hlen10 hJ3 hD2 F10 N10
        dsimp only
        have cm4 : CutM4 := ⟨trivial⟩
        k_steps
        unfold StopS
        have hwz : wt way z ≤ 100 := Nat.le_trans List.countP_le_length (by omega)
        refine KM.len_K (its := ys3.toArray) (n := wt way z) (by k_asm) (by k_mem) (by rw [List.size_toArray, hJ3]; exact wt_len) (by omega) ?_
        k_steps
        exact ⟨_, _, _, _, rfl, F10, fun p hp => N10 p (.tail _ hp), by k_asm, by rw [take_map_succ hzi]; exact intsAre_snoc hJ2⟩
    · rintro ys2 DW h9 tk9 hlen9 hJ2 hDW F9 N9
      dsimp only
      k_steps
      unfold StopL
      rename News _ _ _ ((DW, _) :: _) => nF
      rw [List.take_of_length_le (by omega)] at hJ2
      have hwl : (zs.map (wt way)).length = 5 := by rw [List.length_map, hzl]
      have hW : W5 ys2 (zs.map (wt way)) := by
        refine ⟨by have := IntsAre.length hJ2; rw [this, List.length_map, hzl], fun k hk => ?_, fun k => ?_⟩
        · obtain ⟨t, ht⟩ := intsAre_get hJ2 (k := k) (by rw [List.length_map]; omega)
          refine ⟨t, ?_⟩
          rw [ht, List.getD_eq_getElem?_getD, List.getD_eq_getElem?_getD, List.getElem?_map, List.getElem?_map, List.getElem?_eq_getElem (by omega)]
          rfl
        · rw [List.getD_eq_getElem?_getD]
          cases h : (zs.map (wt way))[k]? with
          | none => exact Nat.zero_le _
          | some v => exact ws_le hzs v (List.mem_of_getElem? h)
      refine' Cx.use (least_ _ DW _ ys2 (zs.map (wt way)) (sgOf right) _ _ (.head _) hW (by cases right; exact .inr rfl; exact .inl rfl)) (by k_asm) (by k_asm) (by k_asm) nF (by k_asm) (by first | exact rfl | assumption) (by ktr_room) (by ktr_units) ?_
      rintro r9 n9 h10 tk10 ⟨RR, rfl, hmR, hsR, hvR⟩ F10 N10
      have N11 := newsAdd (l := [(RR.a, RR.o), (DL, _), _, _, (306, _), (DT, _), (DR, oR)]) N10 (by
        intro p hp
        simp only [List.mem_cons, List.not_mem_nil, or_false] at hp
        rcases hp with rfl | rfl | rfl | rfl | rfl | rfl | rfl
        · exact hmR
        · exact hsR _ (.tail _ (.tail _ (.tail _ (.tail _ (.tail _ (.head _))))))
        · exact hsR _ (.tail _ (.tail _ (.tail _ (.tail _ (.tail _ (.tail _ (.tail _ (.head _))))))))
        · exact hsR _ (.tail _ (.tail _ (.tail _ (.tail _ (.tail _ (.tail _ (.tail _ (.tail _ (.head _)))))))))
        · exact hsR _ (.tail _ (.tail _ (.tail _ (.tail _ (.tail _ (.tail _ (.tail _ (.tail _ (.tail _ (.head _))))))))))
        · exact hsR _ (.tail _ (.tail _ (.tail _ (.tail _ (.tail _ (.tail _ (.tail _ (.tail _ (.tail _ (.tail _ (.head _)))))))))))
        · exact hsR _ (.tail _ (.tail _ (.tail _ (.tail _ (.tail _ (.tail _ (.tail _ (.tail _ (.tail _ (.tail _ (.tail _ (.head _)))))))))))))
      dsimp only [List.cons_append, List.nil_append] at N11
      clear N10
      have hpg := Box.mk (page_le RP.T LO hzl hzs)
      k_steps
      rename News _ _ _ _ => nG
      refine comp_walk0 rfl (by k_asm) nG (src_list (l := DT) (vs := ts) (nn := ept) nG (by k_mem)) (fun p hp => by rw [List.mem_singleton.mp hp]; k_mem) (by decide) rfl (fun i ys => IntsAre ys ((zs.take i).map fun z => (((spS way z).length : Nat) : Int))) .nil (by omega) ?_ ?_
      · rintro i v ys3 I1 D1 C1 oI1 oC1 h11 tk11 hi hv hlen4 hJ3 off11 F11 N11 ⟨mc11, hns11⟩ ZZ hZZ
        obtain ⟨tv, htv⟩ := strsAre_get hts (k := i) (by omega)
        rw [htv] at hv
        cases hv
        have hzi : zs[i]? = some (zs.getD i "") := by
          rw [List.getD_eq_getElem?_getD, List.getElem?_eq_getElem (by omega)]
          rfl
        have hx9 := (hzs _ (getD_mem (k := i) (by omega))).1
        generalize hz9 : zs.getD i "" = z at hx9 hzi
        have hsp9 := Box.mk (spS_fit (way := way) hx9)
        k_steps
        unfold StopL
        rename News _ _ _ ((C1, _) :: _) => nB
        refine' Cx.use (spelled_ _ DR oR way z _ _ 0 (by decide) (by omega) _ (by k_mem) hRD) (by k_asm) (by k_asm) (by k_asm) nB (by k_asm) (by first | exact rfl | assumption) (by ktr_room) (by ktr_units) ?_
        rintro r12 n12 h12 tk12 ⟨⟨t', rfl⟩, hs12⟩ F12 N12
        have N13 : News _ _ h12 _ := fun p hp => N12 p (hs12 p hp)
        k_steps
        exact ⟨_, _, _, _, rfl, F12, N13, by k_asm, by rw [take_map_succ hzi]; exact intsAre_snoc hJ3⟩
      · rintro ys3 DS h11 tk11 hlen11 hJ3 hDS F11 N11
        rw [List.take_of_length_le (by omega)] at hJ3
        dsimp only
        k_steps
        rename News _ _ _ _ => nH
        refine comp_walk0 rfl (by k_asm) nH (src_list (l := DL) (vs := twos ls) (nn := epl) nH (by k_mem)) (fun p hp => by rw [List.mem_singleton.mp hp]; k_mem) (by decide) rfl (fun i ys => IntsAre ys ((L.take i).map fun p => ((p.2 : Nat) : Int))) .nil (by rw [List.length_map]; omega) ?_ ?_
        · rintro i v ys4 I1 D1 C1 oI1 oC1 h13 tk13 hi hv hlen5 hJ4 off13 F13 N13 ⟨mc13, hns13⟩ ZZ hZZ
          rw [List.getElem?_map] at hv
          obtain ⟨l, hl, rfl⟩ := Option.map_eq_some_iff.mp hv
          have hl0 := hls l (List.mem_of_getElem? hl)
          have hl1 := hsR _ (.tail _ (.tail _ (.tail _ (.tail _ (.tail _ (.tail _ (.tail _ (.tail _ (.tail _ (.tail _ (.tail _ (.tail _ (hl0)))))))))))))
          have hLi : L[i]? = some (l.i, l.j) := by rw [← hij, List.getElem?_map, hl]; rfl
          k_steps
          exact ⟨_, _, _, _, rfl, by k_asm, by k_asm, by k_asm, by rw [take_map_succ hLi]; exact intsAre_snoc hJ4⟩
        · rintro ys4 DM h13 tk13 hlen13 hJ4 hDM F13 N13
          rw [List.length_map, hlL, List.take_of_length_le (by rw [LO.len]; exact Nat.le_refl 5)] at hJ4
          dsimp only
          k_steps
          rename News _ _ _ _ => nI
          refine StopS.go ?_
          refine kso_max (by k_asm) nI (News.isList nI (by k_mem)) hJ4 (by rw [List.length_map, LO.len]; decide) rfl ?_
          intro h14 M14 t14 tk14 F14 N14 hM hle
          clear nI
          obtain rfl := max_eq hM hle
          clear hM hle
          k_steps
          refine StopS.go ?_
          refine PyProof.Rows.mul_int ?_ (sgn_mul (by cases right; exact .inr rfl; exact .inl rfl))
          rw [LO.deep]
          walk1
          walk1
          walk1
          walk1
          walk1
          walk1
          walk1
          walk1
          walk1
          walk1
          walk1
          walk1
          walk1
          walk1
          have hvp : RR.p = _ := congrArg Prod.fst hvR
          have hvq : RR.q = _ := congrArg Prod.snd hvR
          rw [end_eq LO hzl RP.T, hvp, hvq, beq_self_eq_true, beq_self_eq_true, Bool.and_self]
          subst hG
          exact goodW_bool (by k_asm) (by assumption) (none_ok rfl _) (post_ok rfl _)
          walk1
end
end Mine
theorem PySem.Challenge.cw_uk0026_01_holds : PySem.Challenge.rw_uk0026_01.Holds :=
  Mine.law_
