import PyProof.Rows.All
import Wide.All
import OpenK.AllK
import Wide.FinOn
import PySem.Challenge.RW_mj0243_01
open PySem PySem.W PyProof.Rows
set_option Elab.async false
set_option linter.all false
set_option maxRecDepth 100000
set_option maxHeartbeats 40000000
namespace Mine
section
theorem pass {R : Prop} {α : Type} (_H : α) (_hw : True) (hc : R) : R := hc
local macro_rules | `(tactic| o_head $_H) => `(tactic| refine Mine.pass (0 : Nat) ?hw ?hc)
local macro_rules | `(tactic| w_witness2) => `(tactic| exact trivial)
open_top hd for PySem.Challenge.rw_mj0243_01.row
end
local macro_rules | `(tactic| walk_at $s:str) => `(tactic| k_extra $s)
theorem kwTop : True := by
  w_top off
  trivial
/-! deque(): made empty; its truth -/
theorem dq_mro : mroOf (.type "collections.deque") = pure [.type "collections.deque", .type "object"] := by rw [mroOf_type]; kernel_rfl
theorem dq_new : typeLookup (.type "collections.deque") "__new__" = pure (some (.builtin "collections.deque.__new__")) := by rw [typeLookup_type, builtinLookup_eq_fast]; kernel_rfl
theorem dq_sub : isSubtype (.type "collections.deque") (.type "collections.deque") = pure true := by rw [isSubtype_type]; kernel_rfl
theorem dq_slot_init : Slot "collections.deque" "__init__" "collections.deque.__init__" :=
  .of (owner := "collections.deque") (n := "__init__") (by rw [typeLookup_type, builtinLookup_eq_fast]; kernel_rfl) (by decide +kernel) (by decide +kernel) (by decide +kernel)
    (by first | exact .inl (by decide +kernel) | exact .inr (by decide +kernel)) (by rw [isSubtype_type]; kernel_rfl)
theorem dq_called : TypeCalled "collections.deque" "collections.deque.__new__" "collections.deque.__init__" :=
  ⟨by decide +kernel, by decide +kernel, ⟨_, _, dq_mro⟩, madeBy_type dq_mro dq_new (by decide +kernel), by decide +kernel, dq_sub, dq_slot_init⟩
theorem dq_typeCall : checkTypeCall "collections.deque" ⟨[], []⟩ = pure () := by kernel_rfl
theorem dq_newCall : checkBuiltinCall "collections.deque.__new__" ⟨[.type "collections.deque"], []⟩ = pure () := by kernel_rfl
theorem dq_entry_new : entryFor table "collections.deque.__new__" = some Builtin.«collections.deque.__new__» := entryFor_of_tree (by kernel_rfl)
theorem dq_entry_init : entryFor table "collections.deque.__init__" = some Builtin.«collections.deque.__init__» := entryFor_of_tree (by kernel_rfl)
theorem dq_args_init (a : Value) : argsOk "collections.deque.__init__" ⟨[a], []⟩ := by unfold argsOk; kernel_rfl
theorem dq_nodict : typeHasDict (.type "collections.deque") = false := by kernel_rfl
noncomputable abbrev dqObj : Obj := { cls := .type "collections.deque", data := .fields #[.none, rawInt 0] }
theorem upd_push {f : Obj → Obj} (h : Heap) (o : Obj) : (h.push o).update h.objs.size f = h.push (f o) := by
  obtain ⟨objs, l⟩ := h
  show Heap.mk ((objs.push o).modify objs.size f) l = Heap.mk (objs.push (f o)) l
  congr 1
  apply Array.ext
  · simp
  · intro i h1 h2
    simp only [Array.getElem_modify, Array.getElem_push]
    simp only [Array.size_modify, Array.size_push] at h1
    split <;> split <;> first | rfl | omega
section
variable {prog : Program} {w : World} {A : Around} {E : Value → Shared → Prop} {s : Shared} {h₀ : Heap} {L : Addr} {m : Str → Option Value} {news : List (Addr × Obj)}
theorem dq_code_new {Q₁ : Value → Shared → Prop} (h : Q₁ (.ref s.heap.objs.size) { s with heap := s.heap.push dqObj }) :
    codeAny (model prog w) A (.call (.builtin "collections.deque.__new__") ⟨[.type "collections.deque"], []⟩) (wants Q₁ E) s := by
  refine codeAny_call_builtin (by decide +kernel) dq_entry_new (wpAny_of_eq dq_newCall ?_)
  have hsub : isSubtype (.type "collections.deque") (.type Builtin.Deque.ty) = pure true := dq_sub
  have hmro := dq_mro
  have hnd := dq_nodict
  obtain ⟨hp, g, d, tk, os⟩ := s
  unfold Builtin.«collections.deque.__new__»
  wp_walk
  exact h
theorem dq_make {Q : Value → Shared → Prop} (h : Q (.ref s.heap.objs.size) { s with heap := s.heap.push dqObj }) :
    wpAny (model prog w) A (call (.type "collections.deque") []) Q E s := by
  refine callType_codes (Q₁ := fun obj s₁ => obj = .ref s.heap.objs.size ∧ s₁ = { s with heap := s.heap.push dqObj }) dq_called dq_typeCall dq_entry_init (dq_code_new ⟨rfl, rfl⟩) ?_
  rintro obj s₁ ⟨rfl, rfl⟩
  have hg : (s.heap.push dqObj).get? s.heap.objs.size = some dqObj := Heap.get?_push_size _ rfl
  refine ⟨?_, dq_args_init _, ?_⟩
  · exact ⟨_, hg, rfl⟩
  obtain ⟨hp, g, d, tk, os⟩ := s
  unfold Builtin.«collections.deque.__init__»
  wp_walk
  refine ⟨rfl, ?_⟩
  have e := upd_push (f := Obj.mapFields fun x => x.setIfInBounds 0 Value.none) hp dqObj
  dsimp only at e ⊢
  rw [e]
  exact h
/-- an empty deque, onto the ledger -/
theorem dq_N {Q : Value → Shared → Prop} (F : Fr h₀ L s.heap m) (N : News h₀ L s.heap news)
    (h : ∀ l h', Fr h₀ L h' m → News h₀ L h' ((l, dqObj) :: news) → (∀ p ∈ news, p.1 < l) → Q (.ref l) { s with heap := h' }) :
    wpAny (model prog w) A (call (.type "collections.deque") []) Q E s :=
  dq_make (h _ _ (F.push _) (N.push F _) fun p hp => Heap.lt_size (N p hp).1)
end


theorem dq_slot_len : Slot "collections.deque" "__len__" "collections.deque.__len__" :=
  .of (owner := "collections.deque") (n := "__len__") (by rw [typeLookup_type, builtinLookup_eq_fast]; kernel_rfl) (by decide +kernel) (by decide +kernel) (by decide +kernel)
    (by first | exact .inl (by decide +kernel) | exact .inr (by decide +kernel)) dq_sub
theorem dq_nobool : typeLookup (.type "collections.deque") "__bool__" = pure none := by rw [typeLookup_type, builtinLookup_eq_fast]; kernel_rfl
theorem dq_entry_len : entryFor table "collections.deque.__len__" = some Builtin.«collections.deque.__len__» := entryFor_of_tree (by kernel_rfl)
theorem dq_args_len (a : Value) : argsOk "collections.deque.__len__" ⟨[a], []⟩ := by unfold argsOk; kernel_rfl
section
variable {prog : Program} {w : World} {A : Around} {E : Value → Shared → Prop} {s : Shared}
theorem dq_truthy {l : Addr} {Q : Bool → Shared → Prop} (ho : s.heap.get? l = some dqObj) (h : Q false { s with toks := s.toks + 1 + 1 }) : wpAny (model prog w) A (truthy (.ref l)) Q E s := by
  have hT : s.TypeIs (.ref l) "collections.deque" := ⟨_, ho, rfl⟩
  have body : wpAny (model prog w) A.in1 (Builtin.«len» ⟨[.ref l], []⟩) (fun fin s' => ∃ r, fin = .done (.ret r) ∧ (r = .int 0 (s.toks + 1) ∧ Q false s')) E s := by
    unfold Builtin.«len»
    refine wpAny_bind (m := oneArg "len" _) (wpAny_pure ?_)
    refine wpAny_bind (m := callSpecial? (.ref l) (Str.ofString "__len__")) (wpAny_callSpecial?_slot (name := Str.ofString "__len__") hT dq_slot_len
      (wpAny_call_entry dq_slot_len hT dq_entry_len ?_ (dq_args_len _)))
    unfold Builtin.«collections.deque.__len__»
    refine wpAny_bind (m := slotArgs "__len__" 0 _) (wpAny_pure ?_)
    wp_walk
    refine ⟨_, rfl, ?_⟩
    wp_walk
    exact ⟨_, rfl, rfl, h⟩
  have key : wpAny (model prog w) A (runValue (.builtin "len" ⟨[.ref l], []⟩)) (fun r s' => r = .int 0 (s.toks + 1) ∧ Q false s') E s := by
    refine wpAny_runValue (codeAny_builtin entry_len ?_)
    rw [Around.under_plainId plain_len _]
    exact wpAny_mono body (fun fin s' h' => by obtain ⟨r, rfl, hq⟩ := h'; exact hq) fun _ _ e => e
  unfold truthy
  first
    | refine wpAny_bind (wpAny_callSpecial?_none (name := Str.ofString "__bool__") hT dq_nobool ?_)
    | refine wpAny_bind (wpAny_pure (wpAny_bind (wpAny_callSpecial?_none (name := Str.ofString "__bool__") hT dq_nobool ?_)))
  first
    | refine wpAny_bind (wpAny_specialOf (name := Str.ofString "__len__") hT dq_slot_len.lookup ?_)
    | refine wpAny_bind (wpAny_pure (wpAny_bind (wpAny_specialOf (name := Str.ofString "__len__") hT dq_slot_len.lookup ?_)))
  refine wpAny_bind (wpAny_mono key (fun r s' h' => ?_) fun _ _ e => e)
  obtain ⟨rfl, hq⟩ := h'
  exact wpAny_pure hq
end


noncomputable abbrev prg := PySem.Challenge.rw_mj0243_01.row.prog
noncomputable abbrev Led := List (Addr × Obj)
/-- a contract of a def: called with args over a ledger, it comes back with Post; where rz holds it may raise -/
noncomputable def Sp (w : World) (f : Addr) (args : List Value) (news : Led) (dN uN : Nat) (rz : Prop) (Post : Value → Led → Prop) : Prop :=
  ∀ (p : Program) (loose : List Str) (mean : ExcName → Option Value) (mg mb : Str → Option Value) (dp un : Nat) (cn : Str) (cs : Scope) (a : Addr) (ccd : Value) (cl : List (Str × Addr)) (outer : List Env) (A₀ : Around) (base h₀ : Heap) (L : Addr) (m : Str → Option Value) (s : Shared) (Q E : Value → Shared → Prop),
    Below A₀ base outer h₀ → Fr h₀ L s.heap m → (hd.heap_1 w.params).In h₀ → News h₀ L s.heap news → Top p loose mean mg mb h₀ → cs.kind = .function → dp + dN < recursionLimit → un + uN < cLine →
    (∀ r news' h' tk', Fr h₀ L h' m → News h₀ L h' news' → Post r news' → Q r { s with heap := h', toks := tk' }) →
    (rz → ∀ e t tt g h' tk', Fr h₀ L g m → g.UpToSlots h' → RaisedK base (envX cn cs L a ccd cl :: outer) e (.type "ValueError") t [.str (Str.ofString "No closing quotation") tt] [] h' → E (.ref e) { s with heap := h', toks := tk' }) →
    wpAny (model prg w) (ktrTop dp un (some []) cn cs L a ccd cl outer) (call (.ref f) args) Q E s
noncomputable abbrev strE (w : World) (n : Str) (t : Tok) (v : Value) : DictEntry := ⟨PyData.keyHash w.params n, .str n t, v⟩
/-- the dict of a StringIO of the text buf, at pos -/
noncomputable abbrev sioD (w : World) (t1 t2 t3 t4 t5 t6 : Tok) (buf : Str) (pos : Int) : Obj := dictOf [strE w (Str.ofString "_StringIO__newline") t1 (.str (Str.ofString "\n") t2), strE w (Str.ofString "_StringIO__buf") t3 (.str buf t4), strE w (Str.ofString "_StringIO__pos") t5 (.int pos t6)] 3
theorem units_under_kw (A : Around) (C : Addr) (vals : List Value) (kw : List (Str × Value)) : (A.under (.builtin "type.__call__" ⟨.ref C :: vals, kw⟩)).units = A.units + 1 := rfl
theorem lim0 {d n lim : Nat} (h : d + n < lim) : d < lim := Nat.lt_of_le_of_lt (Nat.le_add_right d n) h
theorem lim1 {d n a lim : Nat} (h : d + n < lim) (e : Nat.ble a n = true) : d + a < lim := Nat.lt_of_le_of_lt (Nat.add_le_add_left (Nat.le_of_ble_eq_true e) d) h
theorem lim2 {d n a b lim : Nat} (h : d + n < lim) (e : Nat.ble (a + b) n = true) : d + a + b < lim := Nat.add_assoc d a b ▸ lim1 h e
theorem limA {d k a b lim : Nat} (h : d + (k + b) < lim) (e : Nat.ble a b = true) : d + a < lim := Nat.lt_of_le_of_lt (Nat.add_le_add_left (Nat.le_trans (Nat.le_of_ble_eq_true e) (Nat.le_add_left b k)) d) h
theorem limB {d k a b c lim : Nat} (h : d + (k + b) < lim) (e : Nat.ble (a + c) b = true) : d + a + (k + c) < lim := by
  have := Nat.le_of_ble_eq_true e
  omega
theorem lim3 {d n a b c lim : Nat} (h : d + n < lim) (e : Nat.ble (a + (b + c)) n = true) : d + a + b + c < lim := Nat.add_assoc (d + a) b c ▸ lim2 h e
theorem lim4 {d n a b c i lim : Nat} (h : d + n < lim) (e : Nat.ble (a + (b + (c + i))) n = true) : d + a + b + c + i < lim := Nat.add_assoc (d + a + b) c i ▸ lim3 h e
theorem lim5 {d n a b c i j lim : Nat} (h : d + n < lim) (e : Nat.ble (a + (b + (c + (i + j)))) n = true) : d + a + b + c + i + j < lim := Nat.add_assoc (d + a + b + c) i j ▸ lim4 h e


local macro_rules | `(tactic| ktr_enter) => `(tactic| k_extra "n ktr_enter")
local macro_rules | `(tactic| k_room) => `(tactic| k_extra "n k_room")
local macro_rules | `(tactic| k_units) => `(tactic| k_extra "n k_units")
local macro_rules | `(tactic| ktr_units) => `(tactic| k_extra "n ktr_units")
local macro_rules | `(tactic| ktr_room) => `(tactic| k_extra "n ktr_room")
local macro_rules | `(tactic| k_all) => `(tactic| assumption)
local macro_rules | `(tactic| k_mem) => `(tactic| k_extra "n k_mem")

theorem kw1 : True := by
  k_with "n ktr_enter" => (refine' code_def ?k1 ?k2 ?k3 ?k4 ?k5 ?kA ?kF ?kK ?k6 ?k7 ?k8 ?k9 ?kB ?_ ?c2 ?c3 ?c4 ?c5; (case kA => exact rfl); (case kF => exact rfl); (case kK => assumption); (case k1 => k_asm); (case k2 => k_asm); (case k3 => k_asm); (case k4 => k_asm); (case k5 => k_asm); (case k6 => k_is); (case k7 => k_is); (case k8 => ktr_room); (case k9 => first | (ktr_unf; done) | exact BindsTo.of_eq rfl | exact binds_K (by k_in) rfl (by k_is) rfl rfl rfl); (case c5 => decide); (case kB => exact locs rfl); (case c2 => exact rfl); (case c3 => exact rfl); (case c4 => exact rfl); k_whole; intro _ _ _ _ _ _ _ _ _; (try dsimp only); (try k_fold))
  k_with "n k_room" => ktr_room
  k_with "n k_units" => ktr_units
  k_with "n ktr_units" => ((try simp only [units_under_kw, units_in1, units_deeper, Around.mark_units, units_caller]); (try dsimp only [ktrTop]); first | exact lim0 hun | exact lim1 hun rfl | exact lim2 hun rfl | exact lim3 hun rfl | exact lim4 hun rfl | exact lim5 hun rfl | exact limA hun rfl | exact limB hun rfl | ((have hcL9 := cLine_is); omega))
  k_with "n ktr_room" => ((try simp only [depth_under_make, depth_under_kw, depth_in1, depth_deeper, depth_caller]); (try dsimp only [ktrTop]); first | exact lim0 hdp | exact lim1 hdp rfl | exact lim2 hdp rfl | exact lim3 hdp rfl | exact lim4 hdp rfl | exact lim5 hdp rfl | exact limA hdp rfl | exact limB hdp rfl | exact lim0 hdp' | exact lim1 hdp' rfl | exact lim2 hdp' rfl | exact lim3 hdp' rfl | exact lim4 hdp' rfl | exact lim5 hdp' rfl | omega)
  k_with "n k_mem" => assumption
  trivial

theorem slice_one {x : Str} {n : Nat} {c : Nat} (h : x.cps[n]? = some c) : Txt.slice x (some (n : Int)) (some ((n : Int) + 1)) = ⟨#[c]⟩ := by
  obtain ⟨hlt, hc⟩ := Array.getElem?_eq_some_iff.mp h
  have h1 : Txt.slice x (some (n : Int)) (some ((n : Int) + 1)) = StrLaws.sliceText x (some (n : Int)) (some ((n + 1 : Nat) : Int)) := rfl
  rw [h1, StrLaws.sliceText_nat x (Nat.le_succ n) (by unfold Str.length; omega)]
  have h2 : (x.cps.toList.drop n).take (n + 1 - n) = [c] := by
    rw [List.drop_eq_getElem_cons (by simpa using hlt)]
    simp [hc]
  rw [h2]
/-- StringIO.read(1): the empty text at the end, else the sign at n -/
theorem read_ok (w : World) (x dx : Addr) (buf : Str) (n : Nat) (t1 t2 t3 t4 t5 t6 t7 : Tok) (rest : Led) (hin : (x, instObj 595 dx) ∈ rest) (hn : ∀ q ∈ rest, q.1 ≠ dx) (hlen : buf.length ≤ 1000) (hpos : n ≤ buf.length) :
    Sp w 541 [.ref x, .int 1 t7] ((dx, sioD w t1 t2 t3 t4 t5 t6 buf n) :: rest) 5 80 False
      (fun r news' => (n = buf.length ∧ (∃ t, r = .str (Str.ofString "") t) ∧ news' = (dx, sioD w t1 t2 t3 t4 t5 t6 buf n) :: rest) ∨
        (∃ c t t6', buf.cps[n]? = some c ∧ r = .str ⟨#[c]⟩ t ∧ news' = (dx, sioD w t1 t2 t3 t4 t5 t6' buf ((n + 1 : Nat) : Int)) :: rest)) := by
  intro p loose mean mg mb dp un cn cs a ccd cl outer A₀ base h₀ L m s Q E B F X N T hk hdp hun hret hrz
  refine wpAny_call ?_
  k_dflt ktr_enter
  k_steps
  · exact hret _ _ _ _ (by k_asm) (by k_asm) (.inl ⟨by omega, ⟨_, rfl⟩, rfl⟩)
  · have hlt : (n : Int) + 1 < buf.length := by assumption
    obtain ⟨c, hc⟩ : ∃ c, buf.cps[n]? = some c := ⟨_, Array.getElem?_eq_getElem (by unfold Str.length at hlt; omega)⟩
    rw [slice_one hc]
    exact hret _ _ _ _ (by k_asm) (by k_asm) (.inr ⟨_, _, _, hc, rfl, rfl⟩)
  · have e1 : (buf.length : Int) = n + 1 := by omega
    obtain ⟨c, hc⟩ : ∃ c, buf.cps[n]? = some c := ⟨_, Array.getElem?_eq_getElem (by unfold Str.length at e1; omega)⟩
    (rename News _ _ _ _ => N9)
    rw [e1] at N9
    rw [e1, slice_one hc]
    exact hret _ _ _ _ (by k_asm) N9 (.inr ⟨_, _, _, hc, rfl, rfl⟩)


/-! one sign in a text, one sign against a text -/
noncomputable def hasC (y : Str) (c : Nat) : Bool := decide (c ∈ y.cps.toList)
noncomputable abbrev one (c : Nat) : Str := ⟨#[c]⟩
section
variable {prog : Program} {w : World} {A : Around} {E : Value → Shared → Prop} {s : Shared}
theorem in_one {y : Str} {c : Nat} {t u : Tok} {Q : Value → Shared → Prop} (b : Bool) (hb : hasC y c = b) (h : Q (.bool b) s) : wpAny (model prog w) A (compareOp .In (.str (one c) u) (.str y t)) Q E s :=
  in_str (by rw [StrLaws.found_one]; unfold hasC at hb; rw [hb]; exact h)
theorem notIn_one {y : Str} {c : Nat} {t u : Tok} {Q : Value → Shared → Prop} (b : Bool) (hb : hasC y c = b) (h : Q (.bool !b) s) : wpAny (model prog w) A (compareOp .NotIn (.str (one c) u) (.str y t)) Q E s :=
  notIn_str (by rw [StrLaws.found_one]; unfold hasC at hb; rw [hb]; exact h)
theorem eq_is {x y : Str} {t u : Tok} {Q : Value → Shared → Prop} (b : Bool) (hb : (x == y) = b) (h : Q (.bool b) s) : wpAny (model prog w) A (compareOp .Eq (.str x u) (.str y t)) Q E s :=
  eq_str (by rw [hb]; exact h)
theorem ne_is {x y : Str} {t u : Tok} {Q : Value → Shared → Prop} (b : Bool) (hb : (x == y) = b) (h : Q (.bool !b) s) : wpAny (model prog w) A (compareOp .NotEq (.str x u) (.str y t)) Q E s :=
  ne_str (by rw [bne, hb]; exact h)
/-- a while by an invariant and a measure -/
theorem whl_ind {σ : Type} {env : Env} {test : PySem.Expr} {body orelse : List Stmt} {pos : Pos} {Q : Flow → Shared → Prop} (J : σ → Shared → Prop) (μ : σ → Nat) (x₀ : σ) (h₀ : J x₀ s) (hE : PassesOwn (model prog w) A env E)
    (step : ∀ x s (P : Flow → Shared → Prop), J x s → (∀ y s₃, μ y < μ x → J y s₃ → P .next s₃ ∧ P .cont s₃) → (∀ s₃, Q .next s₃ → P .brk s₃) →
      wpAny (model prog w) A (isTrue test env (eval test env)) (fun b s₂ => WhlIf b (wpAny (model prog w) A (execs body env) P E s₂) (wpAny (model prog w) A (execs orelse env) Q E s₂)) E s) :
    wpAny (model prog w) A (exec (.While test body orelse pos) env) Q E s := by
  have all : ∀ n x s, μ x < n → J x s → WhlRest prog w A E env test body orelse Q 0 s := by
    intro n
    induction n with
    | zero => intro x s h; exact absurd h (Nat.not_lt_zero _)
    | succ n ih =>
      intro x s hx hj
      exact whl_turn (k := 0) hE (step x s _ hj (fun y s₃ hy hj => ⟨ih y s₃ (Nat.lt_of_lt_of_le hy (Nat.le_of_lt_succ hx)) hj, ih y s₃ (Nat.lt_of_lt_of_le hy (Nat.le_of_lt_succ hx)) hj⟩) fun _ h => h)
  exact whl_start 0 (all _ x₀ s (Nat.lt_succ_self _) h₀)
end
/-- the dict of a shlex over the StringIO x; cm: its commenters; st, tok: its state and its token -/
noncomputable abbrev WC : Str := Str.ofString "abcdfeghijklmnopqrstuvwxyzABCDEFGHIJKLMNOPQRSTUVWXYZ0123456789_" ++ Str.ofString "ßàáâãäåæçèéêëìíîïðñòóôõöøùúûüýþÿÀÁÂÃÄÅÆÇÈÉÊËÌÍÎÏÐÑÒÓÔÕÖØÙÚÛÜÝÞ"
noncomputable abbrev shD (w : World) (t : Nat → Tok) (x pb fs : Addr) (cm : Str) (st : Value) (tok : Str) (tt : Tok) : Obj :=
  dictOf [strE w (Str.ofString "instream") (t 0) (.ref x), strE w (Str.ofString "infile") (t 1) .none, strE w (Str.ofString "posix") (t 2) (.bool true), strE w (Str.ofString "eof") (t 3) .none,
    strE w (Str.ofString "commenters") (t 4) (.str cm (t 5)), strE w (Str.ofString "wordchars") (t 6) (.str WC (t 7)), strE w (Str.ofString "whitespace") (t 8) (.str (Str.ofString " \t\r\n") (t 9)),
    strE w (Str.ofString "whitespace_split") (t 10) (.bool true), strE w (Str.ofString "quotes") (t 11) (.str (Str.ofString "'\"") (t 12)), strE w (Str.ofString "escape") (t 13) (.str (Str.ofString "\\") (t 14)),
    strE w (Str.ofString "escapedquotes") (t 15) (.str (Str.ofString "\"") (t 16)), strE w (Str.ofString "state") (t 17) st, strE w (Str.ofString "pushback") (t 18) (.ref pb), strE w (Str.ofString "lineno") (t 19) (.int 1 (t 20)),
    strE w (Str.ofString "debug") (t 21) (.int 0 (t 22)), strE w (Str.ofString "token") (t 23) (.str tok tt), strE w (Str.ofString "filestack") (t 24) (.ref fs), strE w (Str.ofString "source") (t 25) .none,
    strE w (Str.ofString "_punctuation_chars") (t 26) (.str (Str.ofString "") (t 27))] 19


/-! great steps: an expression that makes nothing, a test, an if -/
structure Cx where
  w : World
  A : Around
  env : Env
  h₀ : Heap
  L : Addr
  m : Str → Option Value
  news : Led
  s : Shared
noncomputable def Cx.At (c : Cx) (h : Heap) : Prop := Fr c.h₀ c.L h c.m ∧ News c.h₀ c.L h c.news
/-- e is worth a value with P; the frame and the ledger stay -/
noncomputable def Ev (c : Cx) (e : PySem.Expr) (P : Value → Prop) : Prop :=
  ∀ (Q E : Value → Shared → Prop) (h : Heap) (tk : Nat), c.At h → (∀ v h' tk', c.At h' → P v → Q v { c.s with heap := h', toks := tk' }) → wpAny (model prg c.w) c.A (eval e c.env) Q E { c.s with heap := h, toks := tk }
/-- the test e comes out as b -/
noncomputable def Te (c : Cx) (e : PySem.Expr) (b : Bool) : Prop :=
  ∀ (Q : Bool → Shared → Prop) (E : Value → Shared → Prop) (h : Heap) (tk : Nat), c.At h → (∀ h' tk', c.At h' → Q b { c.s with heap := h', toks := tk' }) → wpAny (model prg c.w) c.A (isTrue e c.env (eval e c.env)) Q E { c.s with heap := h, toks := tk }
noncomputable def TeL (c : Cx) (op : BoolOp) (es : List PySem.Expr) (b : Bool) : Prop :=
  ∀ (whole : Sem Value) (pos : Pos) (Q : Bool → Shared → Prop) (E : Value → Shared → Prop) (h : Heap) (tk : Nat), c.At h → (∀ h' tk', c.At h' → Q b { c.s with heap := h', toks := tk' }) → wpAny (model prg c.w) c.A (isTrue (.BoolOp op es pos) c.env whole) Q E { c.s with heap := h, toks := tk }
noncomputable def inB (x y : Str) : Bool := !(Builtin.Str.occurrences y x 0 y.length 1).isEmpty
theorem inB_one {y : Str} {n : Nat} {b : Bool} (h : hasC y n = b) : inB (one n) y = b := by unfold inB hasC at *; rw [StrLaws.found_one]; exact h
noncomputable abbrev IsS (x : Str) (v : Value) : Prop := ∃ t, v = .str x t
noncomputable abbrev IsI (i : Int) (v : Value) : Prop := ∃ t, v = .int i t
section
variable {c : Cx} {e l r x : PySem.Expr} {P P' : Value → Prop} {pos : Pos} {b b' : Bool} {k : Nat}
theorem Ev.mono (h : Ev c e P) (hp : ∀ v, P v → P' v) : Ev c e P' := fun Q E hh tk a q => h Q E hh tk a fun v h' tk' a' p => q v h' tk' a' (hp v p)
theorem ev_str_of {x : Str} {t : Tok} (h : Ev c e (· = .str x t)) : Ev c e (IsS x) := h.mono fun _ q => ⟨t, q⟩
theorem ev_int_of {x : Int} {t : Tok} (h : Ev c e (· = .int x t)) : Ev c e (IsI x) := h.mono fun _ q => ⟨t, q⟩
theorem ev_cstr {x : Str} : Ev c (.Constant (.str x) k pos) (IsS x) := fun _ _ _ _ a q => Calls.Constant_str (q _ _ _ a ⟨_, rfl⟩)
theorem ev_cint {i : Int} : Ev c (.Constant (.int i) k pos) (IsI i) := fun _ _ _ _ a q => wpAny_Constant_int (q _ _ _ a ⟨_, rfl⟩)
theorem ev_cnone : Ev c (.Constant .none k pos) (· = .none) := fun _ _ _ _ a q => Constant_none (q _ _ _ a rfl)
theorem ev_cbool : Ev c (.Constant (.bool b) k pos) (· = .bool b) := fun _ _ _ _ a q => Constant_bool (q _ _ _ a rfl)
theorem te_and (h : TeL c .And [l, r] b) : Te c (.BoolOp .And [l, r] pos) b := fun Q E hh tk a q => h _ pos Q E hh tk a q
theorem te_and3 (h : TeL c .And [l, r, x] b) : Te c (.BoolOp .And [l, r, x] pos) b := fun Q E hh tk a q => h _ pos Q E hh tk a q
theorem te_or (h : TeL c .Or [l, r] b) : Te c (.BoolOp .Or [l, r] pos) b := fun Q E hh tk a q => h _ pos Q E hh tk a q
theorem te_or3 (h : TeL c .Or [l, r, x] b) : Te c (.BoolOp .Or [l, r, x] pos) b := fun Q E hh tk a q => h _ pos Q E hh tk a q
theorem tl_and_nil : TeL c .And [] true := fun _ _ _ _ hh tk a q => isTrue_and_nil (q hh tk a)
theorem tl_or_nil : TeL c .Or [] false := fun _ _ _ _ hh tk a q => isTrue_or_nil (q hh tk a)
theorem tl_and_f {es : List PySem.Expr} (h : Te c l false) : TeL c .And (l :: es) false := fun _ _ _ _ hh tk a q => isTrue_and (h _ _ hh tk a fun h' tk' a' => by rw [if_neg Bool.false_ne_true]; exact q h' tk' a')
theorem tl_and_t {es : List PySem.Expr} (h : Te c l true) (h2 : TeL c .And es b) : TeL c .And (l :: es) b := fun wh ps Q E hh tk a q => isTrue_and (h _ _ hh tk a fun h' tk' a' => by rw [if_pos rfl]; exact h2 wh ps Q E h' tk' a' q)
theorem tl_or_t {es : List PySem.Expr} (h : Te c l true) : TeL c .Or (l :: es) true := fun _ _ _ _ hh tk a q => isTrue_or (h _ _ hh tk a fun h' tk' a' => by rw [if_pos rfl]; exact q h' tk' a')
theorem tl_or_f {es : List PySem.Expr} (h : Te c l false) (h2 : TeL c .Or es b) : TeL c .Or (l :: es) b := fun wh ps Q E hh tk a q => isTrue_or (h _ _ hh tk a fun h' tk' a' => by rw [if_neg Bool.false_ne_true]; exact h2 wh ps Q E h' tk' a' q)
theorem tl_and_last (h : Te c l b) : TeL c .And [l] b := by
  cases b with
  | true => exact tl_and_t h tl_and_nil
  | false => exact tl_and_f h
theorem tl_or_last (h : Te c l b) : TeL c .Or [l] b := by
  cases b with
  | true => exact tl_or_t h
  | false => exact tl_or_f h tl_or_nil
theorem tl_orB {es : List PySem.Expr} {b1 b2 : Bool} (h : Te c l b1) (h2 : TeL c .Or es b2) (hb : (b1 || b2) = b) : TeL c .Or (l :: es) b := by
  subst hb
  cases b1 with
  | true => exact tl_or_t h
  | false => exact tl_or_f h h2
theorem tl_andB {es : List PySem.Expr} {b1 b2 : Bool} (h : Te c l b1) (h2 : TeL c .And es b2) (hb : (b1 && b2) = b) : TeL c .And (l :: es) b := by
  subst hb
  cases b1 with
  | true => exact tl_and_t h h2
  | false => exact tl_and_f h
noncomputable def AndRest (c : Cx) (es : List PySem.Expr) (b : Bool) : Bool → Prop
  | true => TeL c .And es b
  | false => b = false
noncomputable def OrRest (c : Cx) (es : List PySem.Expr) (b : Bool) : Bool → Prop
  | true => b = true
  | false => TeL c .Or es b
theorem tl_and {es : List PySem.Expr} {b1 : Bool} (h : Te c l b1) (h2 : AndRest c es b b1) : TeL c .And (l :: es) b := by
  cases b1 with
  | true => exact tl_and_t h h2
  | false => cases (show b = false from h2); exact tl_and_f h
theorem tl_or {es : List PySem.Expr} {b1 : Bool} (h : Te c l b1) (h2 : OrRest c es b b1) : TeL c .Or (l :: es) b := by
  cases b1 with
  | false => exact tl_or_f h h2
  | true => cases (show b = true from h2); exact tl_or_t h
theorem te_not (h : Te c x b) : Te c (.UnaryOp .Not x pos) (!b) := fun Q E hh tk a q => isTrue_not (h _ E hh tk a fun h' tk' a' => q h' tk' a')
theorem te_notB (h : Te c x b) (hb : (!b) = b') : Te c (.UnaryOp .Not x pos) b' := hb ▸ te_not h
theorem te_not_t (h : Te c x false) : Te c (.UnaryOp .Not x pos) true := te_not h
theorem te_not_f (h : Te c x true) : Te c (.UnaryOp .Not x pos) false := te_not h
theorem te_cmp {op : CmpOp} (hl : Ev c l P) (hr : Ev c r P') (hc : ∀ v u (Q E : Value → Shared → Prop) s, P v → P' u → Q (.bool b) s → wpAny (model prg c.w) c.A (compareOp op v u) Q E s) (hm : behindInMarks op r = false := by with_unfolding_all rfl) : Te c (.Compare l [op] [r] pos) b :=
  fun Q E hh tk a q => wpAny_isTrue_Compare1 (hl _ _ hh tk a fun v h1 t1 a1 p1 => hr _ _ h1 t1 a1 fun u h2 t2 a2 p2 => hc v u _ _ _ p1 p2 (wpAny_truthy_bool (q h2 t2 a2))) hm
theorem te_eqS {x y : Str} (b : Bool) (hl : Ev c l (IsS x)) (hr : Ev c r (IsS y)) (hb : (x == y) = b) (hm : behindInMarks .Eq r = false := by with_unfolding_all rfl) : Te c (.Compare l [.Eq] [r] pos) b :=
  te_cmp hl hr (fun v u Q E s ⟨_, p1⟩ ⟨_, p2⟩ q => by subst p1; subst p2; exact eq_is b hb q) hm
theorem te_neS {x y : Str} (b : Bool) (hl : Ev c l (IsS x)) (hr : Ev c r (IsS y)) (hb : (x == y) = b) (hb' : (!b) = b') (hm : behindInMarks .NotEq r = false := by with_unfolding_all rfl) : Te c (.Compare l [.NotEq] [r] pos) b' := hb' ▸
  te_cmp hl hr (fun v u Q E s ⟨_, p1⟩ ⟨_, p2⟩ q => by subst p1; subst p2; exact ne_is b hb q) hm
theorem te_in {x y : Str} (b : Bool) (hl : Ev c l (IsS x)) (hr : Ev c r (IsS y)) (hb : inB x y = b) (hm : behindInMarks .In r = false := by with_unfolding_all rfl) : Te c (.Compare l [.In] [r] pos) b :=
  te_cmp hl hr (fun v u Q E s ⟨_, p1⟩ ⟨_, p2⟩ q => by subst p1; subst p2; exact in_str (by unfold inB at hb; rw [hb]; exact q)) hm
theorem te_nin {x y : Str} (b : Bool) (hl : Ev c l (IsS x)) (hr : Ev c r (IsS y)) (hb : inB x y = b) (hb' : (!b) = b') (hm : behindInMarks .NotIn r = false := by with_unfolding_all rfl) : Te c (.Compare l [.NotIn] [r] pos) b' := hb' ▸
  te_cmp hl hr (fun v u Q E s ⟨_, p1⟩ ⟨_, p2⟩ q => by subst p1; subst p2; exact notIn_str (by unfold inB at hb; rw [hb]; exact q)) hm
theorem te_isN {v : Value} (b : Bool) (hl : Ev c l (· = v)) (hb : (v == .none) = b) (hm : behindInMarks .Is (.Constant .none k pos) = false := by with_unfolding_all rfl) {ps : Pos} : Te c (.Compare l [.Is] [.Constant .none k pos] ps) b :=
  te_cmp hl ev_cnone (fun v' u Q E s p1 p2 q => by subst p1; subst p2; exact is_none_gen (by rw [hb]; exact q)) hm
theorem te_geI {i j : Int} (b : Bool) (hl : Ev c l (IsI i)) (hr : Ev c r (IsI j)) (hb : decide (j ≤ i) = b) (hm : behindInMarks .GtE r = false := by with_unfolding_all rfl) : Te c (.Compare l [.GtE] [r] pos) b :=
  te_cmp hl hr (fun v u Q E s ⟨_, p1⟩ ⟨_, p2⟩ q => by subst p1; subst p2; exact ge_int (by rw [← hb] at q; exact q)) hm
theorem te_gtI {i j : Int} (b : Bool) (hl : Ev c l (IsI i)) (hr : Ev c r (IsI j)) (hb : decide (j < i) = b) (hm : behindInMarks .Gt r = false := by with_unfolding_all rfl) : Te c (.Compare l [.Gt] [r] pos) b :=
  te_cmp hl hr (fun v u Q E s ⟨_, p1⟩ ⟨_, p2⟩ q => by subst p1; subst p2; exact gt_int (by rw [← hb] at q; exact q)) hm
theorem te_val {v : Value} (hl : Ev c e (· = v)) (ht : ∀ (Q : Bool → Shared → Prop) E (hh : Heap) (tk : Nat), (∀ tk', Q b { c.s with heap := hh, toks := tk' }) → wpAny (model prg c.w) c.A (truthy v) Q E { c.s with heap := hh, toks := tk })
    (he : ∀ whole, isTrue e c.env whole = (do let v ← whole; standAt e.pos; holding [v] (truthy v)) := by intro _; rfl) : Te c e b :=
  fun Q E hh tk a q => isTrue_plain (hl _ _ hh tk a fun v' h' tk' a' p => by subst p; exact ht _ _ h' tk' fun tk2 => q h' tk2 a') (he _)
theorem te_bool (hl : Ev c e (· = .bool b)) (he : ∀ whole, isTrue e c.env whole = (do let v ← whole; standAt e.pos; holding [v] (truthy v)) := by intro _; rfl) : Te c e b :=
  te_val hl (fun Q E hh tk q => wpAny_truthy_bool (q tk)) he
theorem te_str {x : Str} (b : Bool) (hl : Ev c e (IsS x)) (hf : ¬ (x.length : Int) ≥ 2 ^ 63) (hb : ((x.length : Int) != 0) = b) (he : ∀ whole, isTrue e c.env whole = (do let v ← whole; standAt e.pos; holding [v] (truthy v)) := by intro _; rfl) : Te c e b :=
  fun Q E hh tk a q => isTrue_plain (hl _ _ hh tk a fun v' h' tk' a' p => by obtain ⟨t, rfl⟩ := p; exact P.truthy_str hf (by rw [hb]; exact q h' _ a')) (he _)
theorem te_one {n : Nat} (hl : Ev c e (IsS (one n))) (he : ∀ whole, isTrue e c.env whole = (do let v ← whole; standAt e.pos; holding [v] (truthy v)) := by intro _; rfl) : Te c e true :=
  te_str true hl (by show ¬ ((1 : Nat) : Int) ≥ 2 ^ 63; decide) rfl he
theorem te_inT {x y z : Str} {k1 k2 k3 : Nat} {p1 p2 p3 : Pos} (b : Bool) (hl : Ev c l (IsS x)) (hb : ([y, z].any (· == x)) = b) (hm : behindInMarks .In (.Tuple [.Constant (.str y) k1 p1, .Constant (.str z) k2 p2] k3 p3) = false := by with_unfolding_all rfl) :
    Te c (.Compare l [.In] [.Tuple [.Constant (.str y) k1 p1, .Constant (.str z) k2 p2] k3 p3] pos) b :=
  fun Q E hh tk a q => wpAny_isTrue_Compare1 (hl _ _ hh tk a fun v h1 t1 a1 q1 => by
    obtain ⟨tx', rfl⟩ := q1
    refine PyProof.Rows.Tuple_ ?_
    refine Calls.spliced_cons (Calls.Constant_str (k := k1) (pos := p1) (Calls.spliced_cons (Calls.Constant_str (k := k2) (pos := p2) (Calls.spliced_nil ?_))))
    refine newTuple_N a1.1 a1.2 (fun h' F' N' => ?_) (by show 2 ≤ sizeLine; decide)
    have ht := News.isTup N' (List.mem_cons_self (l := c.news))
    exact in_tuple_strs ht (.cons _ _ (.cons _ _ .nil)) (wpAny_truthy_bool (by rw [hb]; exact q h' _ ⟨F', fun p hp => N' p (List.mem_cons_of_mem _ hp)⟩))) hm
end
section
variable {w : World} {A : Around} {h₀ : Heap} {L : Addr} {m : Str → Option Value} {news : Led} {s : Shared} {env : Env} {Q : Flow → Shared → Prop} {E : Value → Shared → Prop} {h : Heap} {tk : Nat} {test : PySem.Expr} {body orelse rest : List Stmt} {pos : Pos}
theorem ev_local {cn : Str} {cs : Scope} {f : Addr} {cd : Value} {x : Str} {v : Value} (hk : cs.kind = .function) (hl : (envOf cn cs L f cd).kindOf x = some .local) (hd : (x == ("__debug__" : Str)) = false) (hv : m x = some v) : Ev ⟨w, A, envOf cn cs L f cd, h₀, L, m, news, s⟩ (.Name x pos) (· = v) :=
  fun _ _ _ _ a q => ld a.1 hv (q _ _ _ a rfl) hk hl hd
theorem ev_own {x : Str} {xp : Pos} {attr : Str} {o C dx : Addr} {es : List DictEntry} {n : Nat} {at' : Option Value} {v : Value} (X : (hd.heap_1 w.params).In h₀) (he : Ev ⟨w, A, env, h₀, L, m, news, s⟩ (.Name x xp) (· = .ref o)) (h1 : (o, instObj C dx) ∈ news) (h2 : (dx, dictOf es n) ∈ news)
    (hg : plainGet (hd.heap_1 w.params) C attr = true) (hh : hasDictIn (hd.heap_1 w.params) C = true) (ha : findIn (hd.heap_1 w.params) (.ref C) attr = some at') (hn : noGet (hd.heap_1 w.params) at' = true) (hl : getL attr es = some (some v)) (hv : handedIn v = true) :
    Ev ⟨w, A, env, h₀, L, m, news, s⟩ (.Attribute (.Name x xp) attr pos) (· = v) :=
  fun _ _ hh' tk a q => Attribute_name (he _ _ hh' tk a fun v' h' tk' a' e => by subst e; exact get_own a'.1 X (InstAt.of_news a'.2 h1 h2) hg hh ha hn hl hv (q v h' _ a' rfl))
theorem execs_one {M : Model} {st : Stmt} {s : Shared} (hx : wpAny M A (exec st env) Q E s) : wpAny M A (execs [st] env) Q E s :=
  wpAny_execs_cons (wpAny_mono hx (fun f s' hf => by cases f <;> first | exact wpAny_execs_nil hf | exact hf) fun _ _ e => e)
/-- an if, the last of its block -/
theorem x_if1 (b : Bool) (F : Fr h₀ L h m) (N : News h₀ L h news) (ht : Te ⟨w, A, env, h₀, L, m, news, s⟩ test b)
    (hq : ∀ h' tk', Fr h₀ L h' m → News h₀ L h' news → wpAny (model prg w) A (execs (cond b body orelse) env) Q E { s with heap := h', toks := tk' }) : wpAny (model prg w) A (execs [.If test body orelse pos] env) Q E { s with heap := h, toks := tk } :=
  execs_one (wpAny_If (ht _ _ h tk ⟨F, N⟩ fun h' tk' a => by cases b <;> exact hq h' tk' a.1 a.2))
theorem x_if1S (b : Bool) (F : Fr h₀ L h m) (N : News h₀ L h news) (ht : Te ⟨w, A, env, h₀, L, m, news, s⟩ test b)
    (hq : ∀ h' tk', Fr h₀ L h' m → News h₀ L h' news → (b = true → wpAny (model prg w) A (execs body env) Q E { s with heap := h', toks := tk' }) ∧ (b = false → wpAny (model prg w) A (execs orelse env) Q E { s with heap := h', toks := tk' })) :
    wpAny (model prg w) A (execs [.If test body orelse pos] env) Q E { s with heap := h, toks := tk } :=
  x_if1 b F N ht (fun h' tk' F' N' => by have q := hq h' tk' F' N'; cases b <;> first | exact q.2 rfl | exact q.1 rfl)
/-- an if without an else -/
theorem x_ifE (b : Bool) (F : Fr h₀ L h m) (N : News h₀ L h news) (ht : Te ⟨w, A, env, h₀, L, m, news, s⟩ test b)
    (hq : ∀ h' tk', Fr h₀ L h' m → News h₀ L h' news → cond b (wpAny (model prg w) A (execs body env) (fun f s' => match f with | .next => wpAny (model prg w) A (execs rest env) Q E s' | f => Q f s') E { s with heap := h', toks := tk' }) (wpAny (model prg w) A (execs rest env) Q E { s with heap := h', toks := tk' })) :
    wpAny (model prg w) A (execs (.If test body [] pos :: rest) env) Q E { s with heap := h, toks := tk } :=
  wpAny_execs_cons (wpAny_If (ht _ _ h tk ⟨F, N⟩ fun h' tk' a => by
    have q := hq h' tk' a.1 a.2
    cases b with
    | true => exact q
    | false => rw [if_neg Bool.false_ne_true]; exact wpAny_execs_nil q))
theorem x_if (b : Bool) (F : Fr h₀ L h m) (N : News h₀ L h news) (ht : Te ⟨w, A, env, h₀, L, m, news, s⟩ test b)
    (hq : ∀ h' tk', Fr h₀ L h' m → News h₀ L h' news → wpAny (model prg w) A (execs (cond b body orelse) env) (fun f s' => match f with | .next => wpAny (model prg w) A (execs rest env) Q E s' | f => Q f s') E { s with heap := h', toks := tk' }) : wpAny (model prg w) A (execs (.If test body orelse pos :: rest) env) Q E { s with heap := h, toks := tk } :=
  wpAny_execs_cons (wpAny_If (ht _ _ h tk ⟨F, N⟩ fun h' tk' a => by cases b <;> exact hq h' tk' a.1 a.2))
end
theorem cond_split {b : Bool} {P1 P2 : Prop} (h1 : b = true → P1) (h2 : b = false → P2) : cond b P1 P2 := by cases b <;> first | exact h2 rfl | exact h1 rfl


/-! shlex.read_token: its helpers -/
noncomputable def Stop (P : Prop) : Prop := P
theorem stop_intro {P : Prop} (h : Stop P) : P := h
theorem stop_elim {P : Prop} (h : P) : Stop P := h
section
variable {w : World} {p : Program} {loose : List Str} {mean : ExcName → Option Value} {mg mb : Str → Option Value} {dp un : Nat} {cn : Str} {cs : Scope} {a : Addr} {ccd : Value} {cl : List (Str × Addr)} {outer : List Env} {A₀ : Around} {base h₀ : Heap} {L : Addr} {m : Str → Option Value} {s : Shared} {Q E : Value → Shared → Prop}
theorem read_chr {x dx : Addr} {buf : Str} {n : Nat} {c : Nat} {t1 t2 t3 t4 t5 t6 t7 : Tok} {rest : Led} (B : Below A₀ base outer h₀) (F : Fr h₀ L s.heap m) (X : (hd.heap_1 w.params).In h₀) (N : News h₀ L s.heap ((dx, sioD w t1 t2 t3 t4 t5 t6 buf n) :: rest)) (T : Top p loose mean mg mb h₀) (hk : cs.kind = .function)
    (hin : (x, instObj 595 dx) ∈ rest) (hn : ∀ q ∈ rest, q.1 ≠ dx) (hlen : buf.length ≤ 1000) (hc : buf.cps[n]? = some c) (hd : dp + 5 < recursionLimit) (hu : un + 80 < cLine)
    (h : ∀ t t6' h' tk', Fr h₀ L h' m → News h₀ L h' ((dx, sioD w t1 t2 t3 t4 t5 t6' buf ((n + 1 : Nat) : Int)) :: rest) → Q (.str (one c) t) { s with heap := h', toks := tk' }) :
    wpAny (model prg w) (ktrTop dp un (some []) cn cs L a ccd cl outer) (call (.ref 541) [.ref x, .int 1 t7]) Q E s := by
  have hlt : n < buf.length := by obtain ⟨q, _⟩ := Array.getElem?_eq_some_iff.mp hc; exact q
  refine read_ok w x dx buf n t1 t2 t3 t4 t5 t6 t7 rest hin hn hlen (Nat.le_of_lt hlt) p loose mean mg mb dp un cn cs a ccd cl outer A₀ base h₀ L m s Q E B F X N T hk hd hu ?_ (fun z => z.elim)
  rintro r news' h' tk' F' N' (⟨e, _⟩ | ⟨c', t, t6', hc', rfl, rfl⟩)
  · omega
  · rw [hc] at hc'
    obtain rfl := Option.some.inj hc'
    exact h t t6' h' tk' F' N'
theorem read_eof {x dx : Addr} {buf : Str} {n : Nat} {t1 t2 t3 t4 t5 t6 t7 : Tok} {rest : Led} (B : Below A₀ base outer h₀) (F : Fr h₀ L s.heap m) (X : (hd.heap_1 w.params).In h₀) (N : News h₀ L s.heap ((dx, sioD w t1 t2 t3 t4 t5 t6 buf n) :: rest)) (T : Top p loose mean mg mb h₀) (hk : cs.kind = .function)
    (hin : (x, instObj 595 dx) ∈ rest) (hn : ∀ q ∈ rest, q.1 ≠ dx) (hlen : buf.length ≤ 1000) (hc : n = buf.length) (hd : dp + 5 < recursionLimit) (hu : un + 80 < cLine)
    (h : ∀ t h' tk', Fr h₀ L h' m → News h₀ L h' ((dx, sioD w t1 t2 t3 t4 t5 t6 buf n) :: rest) → Q (.str (Str.ofString "") t) { s with heap := h', toks := tk' }) :
    wpAny (model prg w) (ktrTop dp un (some []) cn cs L a ccd cl outer) (call (.ref 541) [.ref x, .int 1 t7]) Q E s := by
  refine read_ok w x dx buf n t1 t2 t3 t4 t5 t6 t7 rest hin hn hlen (Nat.le_of_eq hc) p loose mean mg mb dp un cn cs a ccd cl outer A₀ base h₀ L m s Q E B F X N T hk hd hu ?_ (fun z => z.elim)
  rintro r news' h' tk' F' N' (⟨e, ⟨t, rfl⟩, rfl⟩ | ⟨c', t, t6', hc', rfl, rfl⟩)
  · exact h t h' tk' F' N'
  · obtain ⟨q, _⟩ := Array.getElem?_eq_some_iff.mp hc'
    exact absurd q (by unfold Str.length at hc; omega)
end
local macro_rules | `(tactic| ktr_unf) => `(tactic| k_extra "n ktr_unf")
theorem kw2 : True := by
  k_with "n ktr_unf" => (show BindsTo _ _ _ [(Str.ofString "self", Value.ref _)]; exact BindsTo.of_eq rfl)
  trivial
/-- the property punctuation_chars -/
theorem pc_get {w : World} {p : Program} {loose : List Str} {mean : ExcName → Option Value} {mg mb : Str → Option Value} {dp un : Nat} {cn : Str} {cs : Scope} {a : Addr} {ccd : Value} {cl : List (Str × Addr)} {outer : List Env} {A₀ : Around} {base h₀ : Heap} {L : Addr} {m : Str → Option Value} {s : Shared} {Q E : Value → Shared → Prop}
    {lx ld x pb fs : Addr} {t : Nat → Tok} {cm tok : Str} {st : Value} {tt : Tok} {news : Led} {ex : Bool} (B : Below A₀ base outer h₀) (F : Fr h₀ L s.heap m) (X : (hd.heap_1 w.params).In h₀) (N : News h₀ L s.heap news) (T : Top p loose mean mg mb h₀) (hk : cs.kind = .function)
    (h1 : (lx, instObj 730 ld) ∈ news) (h2 : (ld, shD w t x pb fs cm st tok tt) ∈ news) (hd : dp + 3 < recursionLimit) (hu : un + 20 < cLine)
    (h : ∀ t h' tk', Fr h₀ L h' m → News h₀ L h' news → Q (.str (Str.ofString "") t) { s with heap := h', toks := tk' }) :
    wpAny (model prg w) (ktrTop dp un (some []) cn cs L a ccd cl outer) (getAttr (.ref lx) (Str.ofString "punctuation_chars") ex) Q E s := by
  k_dflt (refine' get_prop F X (InstAt.of_news N h1 h2) ?k4 ?k5 ?k6 ?k7 ?k8 ?k9 ?_; (case k4 => k_is); (case k5 => k_is); (case k6 => k_is); (case k7 => k_is); (case k8 => k_is); (case k9 => k_is))
  k_dflt ktr_enter
  k_steps
  exact h _ _ _ (by k_asm) (by k_asm)
theorem ev_pc {w : World} {p : Program} {loose : List Str} {mean : ExcName → Option Value} {mg mb : Str → Option Value} {dp un : Nat} {cn : Str} {cs : Scope} {a : Addr} {ccd : Value} {cl : List (Str × Addr)} {outer : List Env} {A₀ : Around} {base h₀ : Heap} {L : Addr} {m : Str → Option Value} {s : Shared}
    {lx ld x pb fs : Addr} {t : Nat → Tok} {cm tok : Str} {st : Value} {tt : Tok} {news : Led} {env : Env} {xp pos : Pos} {y : Str} (B : Below A₀ base outer h₀) (X : (hd.heap_1 w.params).In h₀) (T : Top p loose mean mg mb h₀) (hk : cs.kind = .function)
    (he : Ev ⟨w, ktrTop dp un (some []) cn cs L a ccd cl outer, env, h₀, L, m, news, s⟩ (.Name y xp) (· = .ref lx)) (h1 : (lx, instObj 730 ld) ∈ news) (h2 : (ld, shD w t x pb fs cm st tok tt) ∈ news) (hd : dp + 3 < recursionLimit) (hu : un + 20 < cLine) :
    Ev ⟨w, ktrTop dp un (some []) cn cs L a ccd cl outer, env, h₀, L, m, news, s⟩ (.Attribute (.Name y xp) (Str.ofString "punctuation_chars") pos) (IsS (Str.ofString "")) :=
  fun _ _ hh tk a q => Attribute_name (he _ _ hh tk a fun v' h' tk' a' e => by subst e; exact pc_get B a'.1 X a'.2 T hk h1 h2 hd hu fun t' h'' tk'' F' N' => q _ h'' tk'' ⟨F', N'⟩ ⟨t', rfl⟩)
/-- raise ValueError(text) -/
theorem raise_ve {w : World} {A : Around} {h₀ : Heap} {L f : Addr} {m mg mb : Str → Option Value} {p : Program} {loose : List Str} {mean : ExcName → Option Value} {cn : Str} {cs : Scope} {cd : Value} {s : Shared} {msg : Str} {k : Nat} {np p1 cpos pos : Pos} {Q : Flow → Shared → Prop} {E : Value → Shared → Prop}
    (F : Fr h₀ L s.heap m) (X : (hd.heap_1 w.params).In h₀) (T : Top p loose mean mg mb h₀) (hh : A.handled = none) (hn : nsIn (hd.heap_1 w.params) mainGlobals (Str.ofString "ValueError") = some none) (hk : cs.kind = .function) (hx : (envOf cn cs L f cd).kindOf (Str.ofString "ValueError") = some .globalImplicit)
    (h : ∀ h' e tt tk', Heap.MadeExcOf s.heap h' e (.type "ValueError") [.str msg tt] → E (.ref e) { s with heap := h', toks := tk' }) :
    wpAny (model prg w) A (exec (.Raise (some (.Call (.Name (Str.ofString "ValueError") np) [.Constant (.str msg) k p1] [] cpos)) none pos) (envOf cn cs L f cd)) Q E s := by
  refine Raise_madeB PySem.F.excCall_ValueError PySem.F.excRaise_ValueError hh ?_
  refine name_B F X (topRead_of T) hn PyProof.Rows.Boot.«ValueError» (by decide +kernel) ⟨rfl, ?_⟩ hk hx (by decide)
  refine Calls.spliced_cons (Calls.Constant_str (k := k) (pos := p1) (Calls.spliced_nil ⟨by show 1 ≤ sizeLine; decide, fun h' e x => ?_⟩))
  exact h h' e _ _ (Heap.MadeExc.of x)
theorem raised_nil {base h : Heap} {l : List Env} {e t : Addr} {cls : Value} {vs : List Value} {news : Led} (R : RaisedK base l e cls t vs news h) : RaisedK base l e cls t vs [] h := by
  obtain ⟨⟨B, hB, _, hf, hn⟩, ht⟩ := R
  exact ⟨⟨B, hB, (fun _ hq => nomatch hq), hf, hn⟩, ht⟩


local macro_rules | `(tactic| tb_rel) => `(tactic| k_extra "n tb_rel")
local macro_rules | `(tactic| tb_start) => `(tactic| k_extra "n tb_start")
local macro_rules | `(tactic| ktr_rel) => `(tactic| k_extra "n ktr_rel")

theorem kw3 : True := by
  k_with "n tb_rel" => (k_dflt (refine' ev_own ?bX ?bE ?bA ?bB ?b1 ?b2 ?b3 ?b4 ?b5 ?b6; (case bX => k_asm); (case bE => tb_rel); (case bA => k_mem); (case bB => k_mem); (case b1 => k_is); (case b2 => k_is); (case b3 => k_is); (case b4 => k_is); (case b5 => k_get); (case b6 => k_handed)))
  k_with "n tb_rel" => ((with_reducible show Ev _ (PySem.Expr.Attribute _ (Str.ofString "punctuation_chars") _) _); (k_dflt (refine' ev_pc ?bB ?bX ?bT ?bK ?bE ?bA ?bC ?bD ?bU; (case bB => k_asm); (case bX => k_asm); (case bT => k_asm); (case bK => exact rfl); (case bE => tb_rel); (case bA => k_mem); (case bC => k_mem); (case bD => ktr_room); (case bU => ktr_units))))
  k_with "n tb_rel" => ((with_reducible show Ev _ (PySem.Expr.Name _ _) _); refine' ev_local ?q1 ?q2 ?q3 ?q4; (case q1 => exact rfl); (case q2 => exact rfl); (case q3 => decide); (case q4 => exact rfl))
  k_with "n tb_rel" => ((with_reducible refine' ev_int_of ?bG); (case bG => tb_rel))
  k_with "n tb_rel" => ((with_reducible refine' ev_str_of ?bG); (case bG => tb_rel))
  k_with "n tb_rel" => first | with_reducible exact ev_cstr | with_reducible exact ev_cint | with_reducible exact ev_cnone
  k_with "n tb_start" => first | with_reducible assumption | (show _ = false; decide +kernel) | (show _ = true; decide +kernel) | exact rfl
  k_with "n ktr_rel" => ((with_reducible show Te _ (PySem.Expr.Attribute _ _ _) _); first | (refine' te_bool ?gL; (case gL => tb_rel)) | (refine' te_str _ ?gL ?gF ?gB; (case gL => tb_rel); (case gF => first | decide | with_reducible assumption | omega); (case gB => tb_start)))
  k_with "n ktr_rel" => ((with_reducible show Te _ (PySem.Expr.Name _ _) _); first | (refine' te_bool ?gL; (case gL => tb_rel)) | (refine' te_one ?gL; (case gL => tb_rel)) | (refine' te_str _ ?gL ?gF ?gB; (case gL => tb_rel); (case gF => first | decide | with_reducible assumption | omega); (case gB => tb_start)))
  k_with "n ktr_rel" => ((with_reducible show Te _ (PySem.Expr.Compare _ [CmpOp.Gt] _ _) _); refine' te_gtI _ ?gL ?gR ?gB; (case gL => tb_rel); (case gR => tb_rel); (case gB => tb_start))
  k_with "n ktr_rel" => ((with_reducible show Te _ (PySem.Expr.Compare _ [CmpOp.GtE] _ _) _); refine' te_geI _ ?gL ?gR ?gB; (case gL => tb_rel); (case gR => tb_rel); (case gB => tb_start))
  k_with "n ktr_rel" => ((with_reducible show Te _ (PySem.Expr.Compare _ [CmpOp.Is] [PySem.Expr.Constant Const.none _ _] _) _); refine' te_isN _ ?gL ?gB; (case gL => tb_rel); (case gB => first | (show _ = false; exact rfl) | (show _ = true; exact rfl) | exact rfl))
  k_with "n ktr_rel" => ((with_reducible show Te _ (PySem.Expr.Compare _ [CmpOp.NotIn] _ _) _); refine' te_nin _ ?gL ?gR ?gB ?gN; (case gL => tb_rel); (case gR => tb_rel); (case gB => tb_start); (case gN => first | (show _ = false; exact rfl) | (show _ = true; exact rfl) | exact rfl))
  k_with "n ktr_rel" => ((with_reducible show Te _ (PySem.Expr.Compare _ [CmpOp.In] _ _) _); refine' te_in _ ?gL ?gR ?gB; (case gL => tb_rel); (case gR => tb_rel); (case gB => tb_start))
  k_with "n ktr_rel" => ((with_reducible show Te _ (PySem.Expr.Compare _ [CmpOp.In] [PySem.Expr.Tuple _ _ _] _) _); refine' te_inT _ ?gL ?gB; (case gL => tb_rel); (case gB => tb_start))
  k_with "n ktr_rel" => ((with_reducible show Te _ (PySem.Expr.Compare _ [CmpOp.NotEq] _ _) _); refine' te_neS _ ?gL ?gR ?gB ?gN; (case gL => tb_rel); (case gR => tb_rel); (case gB => tb_start); (case gN => first | (show _ = false; exact rfl) | (show _ = true; exact rfl) | exact rfl))
  k_with "n ktr_rel" => ((with_reducible show Te _ (PySem.Expr.Compare _ [CmpOp.Eq] _ _) _); refine' te_eqS _ ?gL ?gR ?gB; (case gL => tb_rel); (case gR => tb_rel); (case gB => tb_start))
  k_with "n ktr_rel" => ((with_reducible show Te _ (PySem.Expr.UnaryOp UnaryOp.Not _ _) _); refine' te_notB ?vL ?vN; (case vL => ktr_rel); (case vN => first | (show _ = false; exact rfl) | (show _ = true; exact rfl) | exact rfl))
  k_with "n ktr_rel" => ((with_reducible show Te _ (PySem.Expr.BoolOp _ _ _) _); (first | with_reducible refine' te_and ?gL | with_reducible refine' te_or ?gL | with_reducible refine' te_and3 ?gL | with_reducible refine' te_or3 ?gL); (case gL => ktr_rel))
  k_with "n ktr_rel" => ((with_reducible show TeL _ BoolOp.Or _ _); first | (with_reducible exact tl_or_nil) | ((with_reducible refine' tl_or_last ?uL); (case uL => ktr_rel)) | (refine' tl_or ?uL ?uR; (case uL => ktr_rel); (case uR => first | exact (rfl : true = true) | ((with_reducible show OrRest _ _ _ false); show TeL _ _ _ _; ktr_rel))) | (refine' tl_orB ?uL ?uR ?uB; (case uL => ktr_rel); (case uR => ktr_rel); (case uB => first | with_reducible assumption | (show _ = true; exact Bool.or_true _))))
  k_with "n ktr_rel" => ((with_reducible show TeL _ BoolOp.And _ _); first | (with_reducible exact tl_and_nil) | ((with_reducible refine' tl_and_last ?uL); (case uL => ktr_rel)) | (refine' tl_and ?uL ?uR; (case uL => ktr_rel); (case uR => first | exact (rfl : false = false) | ((with_reducible show AndRest _ _ _ true); show TeL _ _ _ _; ktr_rel))) | (refine' tl_andB ?uL ?uR ?uB; (case uL => ktr_rel); (case uR => ktr_rel); (case uB => first | with_reducible assumption | exact rfl)))
  k_with "execs cons" => (k_here; (with_reducible show wpAny _ _ (execs (Stmt.If _ _ _ _ :: _) _) _ _ _); k_dflt (refine' x_if _ ?k1 ?k2 ?k3 ?_; (case k1 => k_asm); (case k2 => k_asm); (case k3 => ktr_rel)); k_whole; intro h' tk' F' N'; (try dsimp only [Bool.not_true, Bool.not_false, cond_true, cond_false]); (try k_sweep))
  k_with "execs cons" => (k_here; (with_reducible show wpAny _ _ (execs (Stmt.If _ _ [] _ :: _) _) _ _ _); k_dflt (refine' x_ifE _ ?k1 ?k2 ?k3 ?_; (case k1 => k_asm); (case k2 => k_asm); (case k3 => ktr_rel)); k_whole; intro h' tk' F' N'; (try k_sweep); (first | dsimp only [cond_true, cond_false] | refine cond_split (fun hb' => ?_) (fun hb' => ?_)))
  k_with "execs cons" => (k_here; (with_reducible show wpAny _ _ (execs [Stmt.If _ _ _ _] _) _ _ _); first | (k_dflt (refine' x_if1 _ ?k1 ?k2 ?k3 ?_; (case k1 => k_asm); (case k2 => k_asm); (case k3 => ktr_rel)); k_whole; intro h' tk' F' N'; (dsimp only [cond_true, cond_false]); (try k_sweep)) | (k_dflt (refine' x_if1S _ ?k1 ?k2 ?k3 ?_; (case k1 => k_asm); (case k2 => k_asm); (case k3 => ktr_rel)); k_whole; intro h' tk' F' N'; (try k_sweep); refine ⟨fun hb' => ?_, fun hb' => ?_⟩))
  k_with "exec Raise some none" => (k_here; (with_reducible show wpAny _ _ (exec (Stmt.Raise (some (PySem.Expr.Call (PySem.Expr.Name (Str.ofString "ValueError") _) [PySem.Expr.Constant (Const.str _) _ _] [] _)) none _) _) _ _ _); k_dflt (refine' raise_ve ?k1 ?k2 ?k3 ?k4 ?k5 ?k6 ?k7 ?_; (case k1 => k_asm); (case k2 => k_asm); (case k3 => k_asm); (case k4 => exact rfl); (case k5 => k_is); (case k6 => exact rfl); (case k7 => exact rfl)); k_whole; intro h' e' t' tk' x')
  trivial

/-! the lexer, as a plain function over the signs' numbers -/
inductive LSt where
  | sp
  | a
  | q (k : Nat)
  | esc
inductive RRes where
  | stuck
  | raise
  | done (r : Option (List Nat)) (eof : Bool) (rest : List Nat)
noncomputable def plainC (c : Nat) : Bool := !([32, 9, 13, 10, 39, 34, 92, 35].contains c)
/-- one token: the state, the token so far, quoted, the signs left -/
noncomputable def rd : LSt → List Nat → Bool → List Nat → RRes
  | .sp, _, _, [] => .done none true []
  | .sp, _, _, c :: r => if c = 32 then rd .sp [] false r else if c = 39 ∨ c = 34 then rd (.q c) [] false r else if plainC c then rd .a [c] false r else .stuck
  | .a, t, q, [] => if t = [] ∧ q = false then .stuck else .done (some t) true []
  | .a, t, q, c :: r => if c = 32 then (if t = [] ∧ q = false then .stuck else .done (some t) false r) else if c = 39 ∨ c = 34 then rd (.q c) t q r else if plainC c then rd .a (t ++ [c]) q r else .stuck
  | .q _, _, _, [] => .raise
  | .q k, t, _, c :: r => if c = k then rd .a t true r else if c = 10 then .stuck else if c = 92 ∧ k = 34 then rd .esc t true r else rd (.q k) (t ++ [c]) true r
  | .esc, _, _, [] => .stuck
  | .esc, t, q, c :: r => if c = 10 then .stuck else if c = 92 ∨ c = 34 then rd (.q 34) (t ++ [c]) q r else rd (.q 34) (t ++ [92, c]) q r
inductive LRes where
  | stuck
  | raise
  | ok (ts : List (List Nat))
noncomputable def LRes.cons (y : List Nat) : LRes → LRes
  | .stuck => .stuck
  | .raise => .raise
  | .ok ts => .ok (y :: ts)
/-- all tokens; k: turns at most -/
noncomputable def lexF : Nat → List Nat → LRes
  | 0, _ => .stuck
  | k + 1, cs => match rd .sp [] false cs with
    | .stuck => .stuck
    | .raise => .raise
    | .done none _ _ => .ok []
    | .done (some y) true _ => .ok [y]
    | .done (some y) false r => LRes.cons y (lexF k r)
theorem fold_stuck : ∀ pre : List (List Nat), pre.foldr LRes.cons .stuck = .stuck
  | [] => rfl
  | y :: r => by rw [List.foldr_cons, fold_stuck r]; rfl
theorem fold_raise : ∀ pre : List (List Nat), pre.foldr LRes.cons .raise = .raise
  | [] => rfl
  | y :: r => by rw [List.foldr_cons, fold_raise r]; rfl
theorem fold_ok (us : List (List Nat)) : ∀ pre : List (List Nat), pre.foldr LRes.cons (.ok us) = .ok (pre ++ us)
  | [] => rfl
  | y :: r => by rw [List.foldr_cons, fold_ok us r]; rfl
theorem plain_is {c : Nat} (h1 : c ≠ 32 ∧ c ≠ 9 ∧ c ≠ 13 ∧ c ≠ 10) (h2 : ¬ (c = 39 ∨ c = 34)) (h3 : c ≠ 35 ∧ c ≠ 92 ∧ c ≠ 10) : plainC c = true := by
  obtain ⟨a1, a2, a3, a4⟩ := h1
  have b := not_or.mp h2
  unfold plainC
  rw [List.contains_cons, List.contains_cons, List.contains_cons, List.contains_cons, List.contains_cons, List.contains_cons, List.contains_cons, List.contains_cons, beq_false_of_ne a1, beq_false_of_ne a2, beq_false_of_ne a3, beq_false_of_ne a4, beq_false_of_ne b.1, beq_false_of_ne b.2, beq_false_of_ne h3.1, beq_false_of_ne h3.2.1]
  rfl


/-! read_token: the loop's invariant, the facts of a sign -/
noncomputable abbrev tx (l : List Nat) : Str := ⟨l.toArray⟩
noncomputable def stVal : LSt → Tok → Value
  | .sp, t => .str (Str.ofString " ") t
  | .a, t => .str (Str.ofString "a") t
  | .q k, t => .str (one k) t
  | .esc, t => .str (one 92) t
structure Cf where
  st : LSt
  tok : List Nat
  q : Bool
  rem : List Nat
/-- what does not turn in a run of the lexer -/
structure Lx where
  (lx ld x dx pb fs : Addr)
  t : Nat → Tok
  (t1 t2 t3 t4 t5 : Tok)
  (cm buf : Str)
  rest : Led
noncomputable abbrev Lx.io (l : Lx) (w : World) (n : Nat) (t6 : Tok) : Addr × Obj := (l.dx, sioD w l.t1 l.t2 l.t3 l.t4 l.t5 t6 l.buf n)
noncomputable abbrev Lx.sh (l : Lx) (w : World) (st : Value) (tok : Str) (tt : Tok) : Addr × Obj := (l.ld, shD w l.t l.x l.pb l.fs l.cm st tok tt)
structure Lx.Ok (l : Lx) : Prop where
  h1 : (l.lx, instObj 730 l.ld) ∈ l.rest
  h2 : (l.x, instObj 595 l.dx) ∈ l.rest
  h3 : (l.pb, dqObj) ∈ l.rest
  h4 : (l.fs, dqObj) ∈ l.rest
  n1 : ∀ q ∈ l.rest, q.1 ≠ l.dx
  n2 : ∀ q ∈ l.rest, q.1 ≠ l.ld
  ne : @Ne Nat l.dx l.ld
  len : l.buf.length ≤ 1000
  cm : l.cm = Str.ofString "" ∨ l.cm = Str.ofString "#"
noncomputable def rtJ (w : World) (l : Lx) (res : RRes) (g : Heap) (L : Addr) (s : Shared) (c : Cf) (s' : Shared) : Prop :=
  ∃ h' tk' m' n t6 ts tt ve, s' = { s with heap := h', toks := tk' } ∧ Fr g L h' m' ∧ m' (Str.ofString "self") = some (.ref l.lx) ∧ m' (Str.ofString "quoted") = some (.bool c.q) ∧ m' (Str.ofString "escapedstate") = some ve ∧
    News g L h' (l.io w n t6 :: l.sh w (stVal c.st ts) (tx c.tok) tt :: l.rest) ∧ n ≤ l.buf.length ∧ l.buf.cps.toList.drop n = c.rem ∧ rd c.st c.tok c.q c.rem = res ∧ (c.st = .esc → ∃ te, ve = .str (one 34) te) ∧ (c.st = .sp → c.tok = [] ∧ c.q = false) ∧ (∀ k, c.st = .q k → k = 39 ∨ k = 34) ∧ c.tok.length ≤ 2 * n ∧ (c.st = .a → c.tok ≠ [] ∨ c.q = true) ∧ (c.st = .esc → c.q = true)
/-- behind the loop -/
noncomputable def rtB (w : World) (l : Lx) (res : RRes) (g : Heap) (L : Addr) (s : Shared) (f : Flow) (s' : Shared) : Prop :=
  f = .next ∧ ∃ h' tk' m' n t6 ts tt tok q eof rem, s' = { s with heap := h', toks := tk' } ∧ Fr g L h' m' ∧ m' (Str.ofString "self") = some (.ref l.lx) ∧ m' (Str.ofString "quoted") = some (.bool q) ∧
    News g L h' (l.io w n t6 :: l.sh w (if eof then .none else .str (Str.ofString " ") ts) (tx tok) tt :: l.rest) ∧ n ≤ l.buf.length ∧ l.buf.cps.toList.drop n = rem ∧ res = .done (if tok = [] ∧ q = false then none else some tok) eof rem
theorem ofS_nil : Str.ofString "" = tx [] := by decide +kernel
theorem one_ne {c k : Nat} (h : c ≠ k) : (one c == one k) = false := by simpa [one] using h
theorem one_lit {c k : Nat} {s : Str} (hs : s = one k) (h : c ≠ k) : (one c == s) = false := by subst hs; exact one_ne h
theorem lit_nl : Str.ofString "\n" = one 10 := by decide +kernel
theorem lit_sp : Str.ofString " " = one 32 := by decide +kernel
theorem lit_bs : Str.ofString "\\" = one 92 := by decide +kernel
theorem has_of {y : Str} {l : List Nat} {c : Nat} (e : y.cps.toList = l) (b : Bool) (h : decide (c ∈ l) = b) : hasC y c = b := by unfold hasC; rw [e]; exact h
theorem ws_is : (Str.ofString " \t\r\n").cps.toList = [32, 9, 13, 10] := by decide +kernel
theorem qs_is : (Str.ofString "'\"").cps.toList = [39, 34] := by decide +kernel
theorem bs_is : (Str.ofString "\\").cps.toList = [92] := by decide +kernel
theorem dq_is : (Str.ofString "\"").cps.toList = [34] := by decide +kernel
theorem cmt_is : (Str.ofString "#").cps.toList = [35] := by decide +kernel
theorem nil_is : (Str.ofString "").cps.toList = [] := by decide +kernel
structure Plain (cm : Str) (c : Nat) : Prop where
  nl : (one c == Str.ofString "\n") = false
  ws : hasC (Str.ofString " \t\r\n") c = false
  cm : hasC cm c = false
  bs : hasC (Str.ofString "\\") c = false
  qs : hasC (Str.ofString "'\"") c = false
  em : hasC (Str.ofString "") c = false
theorem plain_of {cm : Str} {c : Nat} (h : plainC c = true) (hcm : cm = Str.ofString "" ∨ cm = Str.ofString "#") : Plain cm c := by
  simp only [plainC, List.contains_eq_mem, List.mem_cons, List.not_mem_nil, or_false, not_or, Bool.not_eq_true', decide_eq_false_iff_not] at h
  obtain ⟨a1, a2, a3, a4, a5, a6, a7, a8⟩ := h
  refine ⟨one_lit lit_nl a4, has_of ws_is _ (by simp [a1, a2, a3, a4]), ?_, has_of bs_is _ (by simp [a7]), has_of qs_is _ (by simp [a5, a6]), has_of nil_is _ (by simp)⟩
  rcases hcm with rfl | rfl
  · exact has_of nil_is _ (by simp)
  · exact has_of cmt_is _ (by simp [a8])
theorem cm_no {cm : Str} {c : Nat} (hcm : cm = Str.ofString "" ∨ cm = Str.ofString "#") (h : c ≠ 35) : hasC cm c = false := by
  rcases hcm with rfl | rfl
  · exact has_of nil_is _ (by simp)
  · exact has_of cmt_is _ (by simpa using h)
theorem drop_cons {buf : Str} {n c : Nat} {r : List Nat} (h : buf.cps.toList.drop n = c :: r) : buf.cps[n]? = some c ∧ n + 1 ≤ buf.length ∧ buf.cps.toList.drop (n + 1) = r := by
  have h1 : n < buf.cps.toList.length := by
    rcases Nat.lt_or_ge n buf.cps.toList.length with q | q
    · exact q
    · rw [List.drop_eq_nil_of_le q] at h; cases h
  have h2 := List.drop_eq_getElem_cons h1
  rw [h] at h2
  obtain ⟨e1, e2⟩ := List.cons.inj h2
  have h3 : n < buf.cps.size := by simpa using h1
  refine ⟨?_, h3, e2.symm⟩
  rw [Array.getElem?_eq_getElem h3, e1]
  simp
theorem drop_nil {buf : Str} {n : Nat} (h : buf.cps.toList.drop n = []) (hn : n ≤ buf.length) : n = buf.length := by
  have := List.drop_eq_nil_iff.mp h
  have h2 : buf.cps.toList.length = buf.length := by simp [Str.length]
  omega
theorem fr_put {h₀ h : Heap} {L : Addr} {m : Str → Option Value} {x : Str} {v : Value} (F : Fr h₀ L h m) (e : m x = some v) : Fr h₀ L h (fun y => if y = x then some v else m y) := by
  have : m = (fun y => if y = x then some v else m y) := by
    funext y
    split
    · rename_i q; rw [q]; exact e
    · rfl
  rw [← this]; exact F
theorem fr_put3 {h₀ h : Heap} {L : Addr} {m : Str → Option Value} {x1 x2 x3 : Str} {v1 v2 v3 : Value} (F : Fr h₀ L h m) (e1 : m x1 = some v1) (e2 : m x2 = some v2) (e3 : m x3 = some v3) :
    Fr h₀ L h (fun y => if y = x1 then some v1 else if y = x2 then some v2 else if y = x3 then some v3 else m y) := by
  have : m = (fun y => if y = x1 then some v1 else if y = x2 then some v2 else if y = x3 then some v3 else m y) := by
    funext y
    split
    · rename_i q; rw [q]; exact e1
    · split
      · rename_i q; rw [q]; exact e2
      · split
        · rename_i q; rw [q]; exact e3
        · rfl
  rw [← this]; exact F
theorem all_ne2 {ld dx : Addr} {o : Obj} {rest : Led} (h : @Ne Nat ld dx) (k : ∀ q ∈ rest, q.1 ≠ dx) : ∀ q ∈ (ld, o) :: rest, q.1 ≠ dx := fun q hq => by
  rcases List.mem_cons.mp hq with rfl | hq
  · exact h
  · exact k q hq
theorem tx_add (l : List Nat) (c : Nat) : tx l ++ one c = tx (l ++ [c]) := Str.ext' (by simp [tx, one, Str.cps_append])
section
variable {prog : Program} {w : World} {A : Around} {E : Value → Shared → Prop} {s : Shared}
theorem in_lit {x y : Str} {t u : Tok} {Q : Value → Shared → Prop} (b : Bool) (hb : (!(Builtin.Str.occurrences y x 0 y.length 1).isEmpty) = b) (h : Q (.bool b) s) : wpAny (model prog w) A (compareOp .In (.str x u) (.str y t)) Q E s :=
  in_str (by rw [hb]; exact h)
theorem truthy_one {c : Nat} {t : Tok} {Q : Bool → Shared → Prop} (h : Q true { s with toks := s.toks + 1 + 1 }) : wpAny (model prog w) A (truthy (.str (one c) t)) Q E s :=
  P.truthy_str (by show ¬ ((1 : Nat) : Int) ≥ 2 ^ 63; decide) h
end
section
variable {w : World} {l : Lx} {res : RRes} {g : Heap} {L : Addr} {s : Shared} {P : Flow → Shared → Prop} {k : Nat} {h' : Heap} {tk' : Nat} {m' : Str → Option Value} {n : Nat} {t6 ts tt : Tok} {ve : Value} {led : Led}
theorem rt_go (hC : ∀ y s₃, y.rem.length < k → rtJ w l res g L s y s₃ → P .next s₃ ∧ P .cont s₃) (F : Fr g L h' m') (N : News g L h' led) (y : Cf)
    (sub : ∀ p ∈ (l.io w n t6 :: l.sh w (stVal y.st ts) (tx y.tok) tt :: l.rest), p ∈ led) (e1 : m' (Str.ofString "self") = some (.ref l.lx)) (e2 : m' (Str.ofString "quoted") = some (.bool y.q)) (e3 : m' (Str.ofString "escapedstate") = some ve)
    (hk : y.rem.length < k) (hn : n ≤ l.buf.length) (hr : l.buf.cps.toList.drop n = y.rem) (hrd : rd y.st y.tok y.q y.rem = res) (c1 : y.st = .esc → ∃ te, ve = .str (one 34) te) (c2 : y.st = .sp → y.tok = [] ∧ y.q = false) (c3 : ∀ k, y.st = .q k → k = 39 ∨ k = 34) (c4 : y.tok.length ≤ 2 * n) (c5 : y.st = .a → y.tok ≠ [] ∨ y.q = true) (c6 : y.st = .esc → y.q = true) :
    P .next { s with heap := h', toks := tk' } ∧ P .cont { s with heap := h', toks := tk' } :=
  hC y _ hk ⟨h', tk', m', n, t6, ts, tt, ve, rfl, F, e1, e2, e3, fun p hp => N p (sub p hp), hn, hr, hrd, c1, c2, c3, c4, c5, c6⟩
theorem rt_out (hB : ∀ s₃, rtB w l res g L s .next s₃ → P .brk s₃) (F : Fr g L h' m') (N : News g L h' led) (tok : List Nat) (q eof : Bool)
    (sub : ∀ p ∈ (l.io w n t6 :: l.sh w (if eof then .none else .str (Str.ofString " ") ts) (tx tok) tt :: l.rest), p ∈ led) (e1 : m' (Str.ofString "self") = some (.ref l.lx)) (e2 : m' (Str.ofString "quoted") = some (.bool q))
    (hn : n ≤ l.buf.length) (hrd : res = .done (if tok = [] ∧ q = false then none else some tok) eof (l.buf.cps.toList.drop n)) : P .brk { s with heap := h', toks := tk' } :=
  hB _ ⟨rfl, h', tk', m', n, t6, ts, tt, tok, q, eof, _, rfl, F, e1, e2, fun p hp => N p (sub p hp), hn, rfl, hrd⟩
end
theorem hasC_of {y : Str} {n : Nat} {b : Bool} (h : inB (one n) y = b) : hasC y n = b := by unfold inB hasC at *; rw [StrLaws.found_one] at h; exact h
theorem ws_yes {c : Nat} (h : inB (one c) (Str.ofString " \t\r\n") = true) (h1 : c ≠ 9) (h2 : c ≠ 13) (h3 : c ≠ 10) : c = 32 := by
  have h := hasC_of h
  unfold hasC at h
  rw [ws_is] at h
  simp at h
  omega
theorem ws_no {c : Nat} (h : inB (one c) (Str.ofString " \t\r\n") = false) : c ≠ 32 ∧ c ≠ 9 ∧ c ≠ 13 ∧ c ≠ 10 := by
  have h := hasC_of h
  unfold hasC at h
  rw [ws_is] at h
  simp at h
  omega
theorem qs_yes {c : Nat} (h : inB (one c) (Str.ofString "'\"") = true) : c = 39 ∨ c = 34 := by
  have h := hasC_of h
  unfold hasC at h
  rw [qs_is] at h
  simpa using h
theorem qs_no {c : Nat} (h : inB (one c) (Str.ofString "'\"") = false) : ¬ (c = 39 ∨ c = 34) := by
  have h := hasC_of h
  unfold hasC at h
  rw [qs_is] at h
  simpa using h
theorem tok_or {tok : List Nat} {q : Bool} (h : tok ≠ [] ∨ q = true) : ((((tx tok).length : Nat) : Int) != 0 || q) = true := by
  rcases h with h | h
  · have : tok.length ≠ 0 := fun e => h (List.eq_nil_of_length_eq_zero e)
    simp [tx, Str.length, h]
  · simp [h]
theorem wc_noq {c : Nat} (h : inB (one c) WC = true) : ¬ (c = 39 ∨ c = 34) := by
  have h := hasC_of h
  rintro (rfl | rfl)
  · exact absurd h (by decide +kernel)
  · exact absurd h (by decide +kernel)
theorem one_eq {c k : Nat} (h : (one c == one k) = true) : c = k := by simpa [one] using h
theorem one_neq {c k : Nat} (h : (one c == one k) = false) : c ≠ k := by simpa [one] using h
theorem bs_iff {c : Nat} : inB (one c) (Str.ofString "\\") = decide (c = 92) := inB_one (has_of bs_is _ (by simp))
theorem dq_iff {c : Nat} : inB (one c) (Str.ofString "\"") = decide (c = 34) := inB_one (has_of dq_is _ (by simp))
theorem fr_put2 {h₀ h : Heap} {L : Addr} {m : Str → Option Value} {x1 x2 : Str} {v1 v2 : Value} (F : Fr h₀ L h m) (e1 : m x1 = some v1) (e2 : m x2 = some v2) :
    Fr h₀ L h (fun y => if y = x1 then some v1 else if y = x2 then some v2 else m y) := by
  have : m = (fun y => if y = x1 then some v1 else if y = x2 then some v2 else m y) := by
    funext y
    split
    · rename_i q; rw [q]; exact e1
    · split
      · rename_i q; rw [q]; exact e2
      · rfl
  rw [← this]; exact F
theorem tx_ne {l : List Nat} (h : l ≠ []) : (tx l == Str.ofString "") = false := by
  rw [ofS_nil]
  simpa [tx] using h


/-! read_token -/
theorem kw4 : True := by
  k_with "compareOp In str str" => (k_here; (with_reducible show wpAny _ _ (compareOp CmpOp.In (Value.str (one _) _) (Value.str _ _)) _ _ _); k_dflt (first | refine in_one false (by assumption) ?_ | refine in_one true (by assumption) ?_ | refine in_one false (by decide +kernel) ?_ | refine in_one true (by decide +kernel) ?_ | refine in_one _ rfl ?_))
  k_with "compareOp NotIn str str" => (k_here; (with_reducible show wpAny _ _ (compareOp CmpOp.NotIn (Value.str (one _) _) (Value.str _ _)) _ _ _); k_dflt (first | refine notIn_one false (by assumption) ?_ | refine notIn_one true (by assumption) ?_ | refine notIn_one false (by decide +kernel) ?_ | refine notIn_one true (by decide +kernel) ?_ | refine notIn_one _ rfl ?_))
  k_with "compareOp Eq str str" => (k_here; k_dflt (first | refine eq_is false (by assumption) ?_ | refine eq_is true (by assumption) ?_ | refine eq_is false (by decide +kernel) ?_ | refine eq_is true (by decide +kernel) ?_))
  k_with "compareOp NotEq str str" => (k_here; k_dflt (first | refine ne_is false (by assumption) ?_ | refine ne_is true (by assumption) ?_ | refine ne_is false (by decide +kernel) ?_ | refine ne_is true (by decide +kernel) ?_))
  k_with "exec While Constant cons nil" => (k_here; refine stop_intro ?_)
  k_with "call ref" => (k_here; (with_reducible show wpAny _ _ (call (Value.ref 541) _) _ _ _); k_dflt (refine' read_eof ?k1 ?k2 ?k3 ?k4 ?k5 ?kK ?rI ?rN ?rL ?rC ?kd ?ku ?_; (case kK => exact rfl); (case k1 => k_asm); (case k2 => k_asm); (case k3 => k_asm); (case k4 => k_asm); (case k5 => k_asm); (case rC => assumption); (case rI => k_mem); (case rN => (refine all_ne2 ?_ ?_ <;> assumption)); (case rL => assumption); (case kd => ktr_room); (case ku => ktr_units); k_whole; intro t' h' tk' F' N'))
  k_with "call ref" => (k_here; (with_reducible show wpAny _ _ (call (Value.ref 541) _) _ _ _); k_dflt (refine' read_chr ?k1 ?k2 ?k3 ?k4 ?k5 ?kK ?rI ?rN ?rL ?rC ?kd ?ku ?_; (case rC => assumption); (case kK => exact rfl); (case k1 => k_asm); (case k2 => k_asm); (case k3 => k_asm); (case k4 => k_asm); (case k5 => k_asm); (case rI => k_mem); (case rN => (refine all_ne2 ?_ ?_ <;> assumption)); (case rL => assumption); (case kd => ktr_room); (case ku => ktr_units); k_whole; intro t' t6' h' tk' F' N'))
  k_with "getAttr ref" => (k_here; (with_reducible show wpAny _ _ (getAttr (Value.ref _) (Str.ofString "punctuation_chars") _) _ _ _); k_dflt (refine' pc_get ?k1 ?k2 ?k3 ?k4 ?k5 ?kK ?i ?j ?kd ?ku ?_; (case kK => exact rfl); (case k1 => k_asm); (case k2 => k_asm); (case k3 => k_asm); (case k4 => k_asm); (case k5 => k_asm); (case i => k_mem); (case j => k_mem); (case kd => ktr_room); (case ku => ktr_units); k_whole; intro t' h' tk' F' N'))
  k_with "inplaceOp Add str str" => (k_here; k_dflt (refine' iadd_str ?_ ?rZ; (case rZ => assumption); k_whole); intro t' tk')
  k_with "compareOp In str str" => (k_here; k_dflt (first | refine in_lit false (by decide +kernel) ?_ | refine in_lit true (by decide +kernel) ?_))
  k_with "truthy str" => (k_here; (with_reducible show wpAny _ _ (truthy (Value.str (one _) _)) _ _ _); k_dflt (refine truthy_one ?_))
  trivial
theorem stVal_str {st : LSt} {t : Tok} : ∃ y u, stVal st t = .str y u := by
  cases st <;> exact ⟨_, _, rfl⟩
theorem rd_nl {st : LSt} {tok : List Nat} {q : Bool} {r : List Nat} {res : RRes} (hq : ∀ k, st = .q k → k = 39 ∨ k = 34) (h : rd st tok q (10 :: r) = res) (hns : res ≠ .stuck) : False := by
  cases st with
  | sp => exact hns (by rw [← h]; rfl)
  | a => exact hns (by rw [← h]; rfl)
  | q k =>
    have hk := hq k rfl
    rw [rd, if_neg (by omega)] at h
    exact hns (by rw [← h]; rfl)
  | esc => exact hns (by rw [← h]; rfl)
noncomputable abbrev scR : Scope :=
  { kind := .function, names := [(Str.ofString "self", .local), (Str.ofString "quoted", .local), (Str.ofString "escapedstate", .local), (Str.ofString "nextchar", .local), (Str.ofString "result", .local), (Str.ofString "print", .globalImplicit), (Str.ofString "ValueError", .globalImplicit), (Str.ofString "repr", .globalImplicit)], isGenerator := false, isCoroutine := false }
noncomputable abbrev envR (L : Addr) : Env := envOf (Str.ofString "shlex.read_token") scR L 698 (.ref 697)
/-- a turn's first rows: the next sign is read -/
theorem rt_turn {w : World} {l : Lx} (ok : l.Ok) {p : Program} {loose : List Str} {mean : ExcName → Option Value} {mg mb : Str → Option Value} {dp un : Nat} {cn : Str} {cs : Scope} {L a : Addr} {ccd : Value} {cl : List (Str × Addr)} {outer : List Env} {base g h : Heap} {L₁ : Addr} {s : Shared} {P : Flow → Shared → Prop} {E : Value → Shared → Prop} {tk n : Nat}
    {m : Str → Option Value} {t6 tt : Tok} {tok : Str} {sv ve : Value} {q : Bool} {rem : List Nat} {a2 : PySem.Expr} {b1 b2 b3 b4 : List Stmt} {e : Stmt} {k1 k2 k3 : Nat} {p1 p2 p3 p4 q0 q1 q2 q3 q4 q5 q6 q7 q8 q9 r0 r1 r2 r3 r4 r5 : Pos}
    (hk : cs.kind = .function) (hdp : dp + 8 < recursionLimit) (hun : un + 100 < cLine) (B₁ : Below (ktrTop dp un (some []) cn cs L a ccd cl outer) base (envX cn cs L a ccd cl :: outer) g) (X₁ : (hd.heap_1 w.params).In g) (T₁ : Top p loose mean mg mb g)
    (F : Fr g L₁ h (fun y => if y = Str.ofString "self" then some (.ref l.lx) else if y = Str.ofString "quoted" then some (.bool q) else if y = Str.ofString "escapedstate" then some ve else m y)) (N : News g L₁ h (l.io w n t6 :: l.sh w sv tok tt :: l.rest)) (hsv : ∃ y u, sv = .str y u) (hn : n ≤ l.buf.length) (hrem : l.buf.cps.toList.drop n = rem)
    (hnl : ∀ c r, rem = c :: r → c ≠ 10)
    (hnil : rem = [] → n = l.buf.length → ∀ h' tk' tn, Fr g L₁ h' (fun y => if y = Str.ofString "nextchar" then some (.str (Str.ofString "") tn) else if y = Str.ofString "self" then some (.ref l.lx) else if y = Str.ofString "quoted" then some (.bool q) else if y = Str.ofString "escapedstate" then some ve else m y) → News g L₁ h' (l.io w n t6 :: l.sh w sv tok tt :: l.rest) →
      wpAny (model prg w) ((ktrTop dp un (some []) cn cs L a ccd cl outer).deeper (envR L₁)) (exec e (envR L₁)) (fun f s' => match f with | .next => wpAny (model prg w) ((ktrTop dp un (some []) cn cs L a ccd cl outer).deeper (envR L₁)) (execs [] (envR L₁)) P E s' | f => P f s') E { s with heap := h', toks := tk' })
    (hcons : ∀ c r, rem = c :: r → n + 1 ≤ l.buf.length → l.buf.cps.toList.drop (n + 1) = r → ∀ h' tk' t6' tn, Fr g L₁ h' (fun y => if y = Str.ofString "nextchar" then some (.str (one c) tn) else if y = Str.ofString "self" then some (.ref l.lx) else if y = Str.ofString "quoted" then some (.bool q) else if y = Str.ofString "escapedstate" then some ve else m y) → News g L₁ h' (l.io w (n + 1) t6' :: l.sh w sv tok tt :: l.rest) →
      wpAny (model prg w) ((ktrTop dp un (some []) cn cs L a ccd cl outer).deeper (envR L₁)) (exec e (envR L₁)) (fun f s' => match f with | .next => wpAny (model prg w) ((ktrTop dp un (some []) cn cs L a ccd cl outer).deeper (envR L₁)) (execs [] (envR L₁)) P E s' | f => P f s') E { s with heap := h', toks := tk' }) :
    wpAny (model prg w) ((ktrTop dp un (some []) cn cs L a ccd cl outer).deeper (envR L₁)) (execs [.If (.BoolOp .And [.Attribute (.Name (Str.ofString "self") p1) (Str.ofString "punctuation_chars") p2, a2] p3) b1 [.Assign [.Name (Str.ofString "nextchar") p4] (.Call (.Attribute (.Attribute (.Name (Str.ofString "self") ⟨584, 27, 584, 31⟩) (Str.ofString "instream") ⟨584, 27, 584, 40⟩) (Str.ofString "read") ⟨584, 27, 584, 45⟩) [.Constant (.int 1) 0 ⟨584, 46, 584, 47⟩] [] ⟨584, 27, 584, 48⟩) q0] q1,
      .If (.Compare (.Name (Str.ofString "nextchar") q2) [.Eq] [.Constant (.str (Str.ofString "\n")) k1 q3] q4) b2 [] q5, .If (.Compare (.Attribute (.Name (Str.ofString "self") q6) (Str.ofString "debug") q7) [.GtE] [.Constant (.int 3) k2 q8] q9) b3 [] r0,
      .If (.Compare (.Attribute (.Name (Str.ofString "self") r1) (Str.ofString "state") r2) [.Is] [.Constant .none k3 r3] r4) b4 [e] r5] (envR L₁)) P E { s with heap := h, toks := tk } := by
  obtain ⟨y, u, rfl⟩ := hsv
  obtain ⟨h1, h2, h3, h4, hn1, hn2, hne, hlen, hcm⟩ := ok
  have hne' : @Ne Nat l.ld l.dx := fun e => hne e.symm
  have hl9 := sizeLine_eq
  cases rem with
  | nil =>
    have hn0 := drop_nil hrem hn
    k_steps
    (rename Fr g L₁ _ _ => F9)
    (rename News g L₁ _ _ => N9)
    exact hnil rfl hn0 _ _ _ F9 N9
  | cons c r =>
    obtain ⟨hc, hn2, hr⟩ := drop_cons hrem
    have p1 : (one c == Str.ofString "\n") = false := one_lit lit_nl (hnl c r rfl)
    k_steps
    (rename Fr g L₁ _ _ => F9)
    (rename News g L₁ _ _ => N9)
    exact hcons c r rfl hn2 hr _ _ _ _ F9 N9
inductive Halt : Prop
  | mk
theorem kw5 : True := by
  k_with "execs cons" => (k_here; (with_reducible rename Halt => h9); (with_reducible show wpAny _ _ (execs (Stmt.If (PySem.Expr.BoolOp BoolOp.And [PySem.Expr.Attribute _ (Str.ofString "punctuation_chars") _, _] _) _ _ _ :: _) _) _ _ _); refine stop_intro ?_)
  trivial
theorem rt_ok (w : World) (l : Lx) (ok : l.Ok) (n : Nat) (t6 ts tt : Tok) (hn : n ≤ l.buf.length) (res : RRes) (hres : rd .sp [] false (l.buf.cps.toList.drop n) = res) (hns : res ≠ .stuck) :
    Sp w 698 [.ref l.lx] (l.io w n t6 :: l.sh w (.str (Str.ofString " ") ts) (Str.ofString "") tt :: l.rest) 8 100 (res = .raise)
      (fun r news' => ∃ o eof rem n' t6' ts' tt', res = .done o eof rem ∧ n' ≤ l.buf.length ∧ l.buf.cps.toList.drop n' = rem ∧ (match o with | none => r = .none | some y => ∃ tr, r = .str (tx y) tr) ∧
        news' = l.io w n' t6' :: l.sh w (if eof then .none else .str (Str.ofString " ") ts') (Str.ofString "") tt' :: l.rest) := by
  intro p loose mean mg mb dp un cn cs a ccd cl outer A₀ base h₀ L m s Q E B F X N T hk hdp hun hret hrz
  obtain ⟨h1, h2, h3, h4, hn1, hn2, hne, hlen, hcm⟩ := id ok
  dsimp only at *
  have hne' : @Ne Nat l.ld l.dx := fun e => hne e.symm
  refine wpAny_call ?_
  k_dflt ktr_enter
  rename_i g₁ L₁ h₁ FG₁ F₁ N₁ B₁ X₁ T₁
  k_steps
  refine stop_elim ?_
  rename_i h₂ F₂ N₂
  refine wpAny_mono (whl_ind (Q := rtB w l res g₁ L₁ s) (rtJ w l res g₁ L₁ s) (fun c => c.rem.length) ⟨.sp, [], false, l.buf.cps.toList.drop n⟩ ?init ?pass ?step) ?after (fun _ _ e => e)
  case pass => passes_own
  case init =>
    refine ⟨h₂, _, _, n, t6, ts, tt, _, rfl, F₂, rfl, rfl, rfl, ?_, hn, rfl, hres, by simp, by simp, by simp, by simp, by simp, by simp⟩
    show News g₁ L₁ h₂ (l.io w n t6 :: l.sh w (.str (Str.ofString " ") ts) (tx []) tt :: l.rest)
    rw [← ofS_nil]
    exact N₂
  case after =>
    rintro f s' ⟨rfl, h', tk', m', n', t6', ts', tt', tok, q, eof, rem, rfl, F₃, e1, e2, N₃, hn3, hr3, hres3⟩
    dsimp only at *
    have F₄ := fr_put2 F₃ e1 e2
    clear F₃ F₂ N₂ e1 e2
    cases q with
    | true =>
      rw [if_neg (by simp)] at hres3
      k_steps
      exact hret _ _ _ _ (by k_asm) (by k_asm) ⟨_, _, _, _, _, _, _, hres3, hn3, hr3, ⟨_, rfl⟩, rfl⟩
    | false =>
      by_cases ht : tok = []
      · subst ht
        rw [if_pos ⟨rfl, rfl⟩] at hres3
        k_steps
        exact hret _ _ _ _ (by k_asm) (by k_asm) ⟨_, _, _, _, _, _, _, hres3, hn3, hr3, rfl, rfl⟩
      · rw [if_neg (fun e => ht e.1)] at hres3
        have hne9 := tx_ne ht
        k_steps
        exact hret _ _ _ _ (by k_asm) (by k_asm) ⟨_, _, _, _, _, _, _, hres3, hn3, hr3, ⟨_, rfl⟩, rfl⟩
  case step =>
    rintro ⟨st, tok, q, rem⟩ s₁ P ⟨h', tk', m', n', t6', ts', tt', ve, rfl, F₃, e1, e2, e3, N₃, hn', hrem, hrd, hesc, hsp, hq, htl, hA9, hE9⟩ hC hB
    dsimp only at *
    have F₄ := fr_put3 F₃ e1 e2 e3
    clear F₃ F₂ N₂ e1 e2 e3
    have hl9 := sizeLine_eq
    have h9 := Halt.mk
    k_steps
    refine stop_elim ?_
    clear h9
    rename Fr g₁ L₁ _ _ => F5
    rename News g₁ L₁ _ _ => N5
    with_reducible refine' rt_turn ok ?t2 ?t3 ?t4 ?t5 ?t6 ?t7 ?t8 ?t9 ?s1 ?s2 ?s3 ?s4 ?s5 ?s6
    case t2 => exact hk
    case t3 => exact hdp
    case t4 => exact hun
    case t5 => exact B₁
    case t6 => exact X₁
    case t7 => exact T₁
    case t8 => exact F5
    case t9 => exact N5
    case s1 => exact stVal_str
    case s2 => exact hn'
    case s3 => exact hrem
    case s4 =>
      intro c r e h10
      subst e h10
      exact rd_nl hq hrd hns
    case s5 =>
      intro e hn0 h' tk' tn F₄ N₃
      clear F5 N5
      subst e
      cases st with
      | sp =>
        obtain ⟨rfl, rfl⟩ := hsp rfl
        dsimp only [stVal] at N₃
        k_steps
        · (rename Fr g₁ L₁ _ _ => F9)
          (rename News g₁ L₁ _ _ => N9)
          exact rt_out (ts := 0) hB F9 N9 [] false true (fun p hp => hp) rfl rfl hn' (by rw [← hrd, hrem]; rfl)
      | a =>
        dsimp only [stVal] at N₃
        have hor := tok_or (hA9 rfl)
        have hF9 : ¬ (((tx tok).length : Nat) : Int) ≥ 2 ^ 63 := by simp [tx, Str.length]; omega
        k_steps
        · (rename Fr g₁ L₁ _ _ => F9)
          (rename News g₁ L₁ _ _ => N9)
          refine rt_out (ts := 0) hB F9 N9 tok q true (fun p hp => hp) rfl rfl hn' ?_
          rw [← hrd, hrem, rd]
          have : ¬ (tok = [] ∧ q = false) := fun e => by rcases hA9 rfl with h | h; exact h e.1; rw [e.2] at h; cases h
          rw [if_neg this, if_neg this]
      | q k =>
        dsimp only [stVal] at N₃
        have hk9 := hq k rfl
        have s1 : (one k == Str.ofString " ") = false := one_lit lit_sp (by omega)
        have s2 : inB (one k) (Str.ofString "'\"") = true := inB_one (has_of qs_is _ (by simpa using hk9))
        k_steps
        · (rename RaisedK _ _ _ _ _ _ _ _ => R9)
          (rename Heap.UpToSlots _ _ => U9)
          exact hrz (by rw [← hrd]; rfl) _ _ _ _ _ _ FG₁ U9 (raised_nil R9)
      | esc =>
        dsimp only [stVal] at N₃
        obtain ⟨te, rfl⟩ := hesc rfl
        exact absurd hrd.symm hns
    case s6 =>
      intro c r e hn2 hr h' tk' t6' tn F₄ N₃
      clear F5 N5
      subst e
      cases st with
      | sp =>
        obtain ⟨rfl, rfl⟩ := hsp rfl
        dsimp only [stVal] at N₃
        rw [rd] at hrd
        have hnot : c ≠ 35 ∧ c ≠ 92 ∧ c ≠ 10 := by
          refine ⟨?_, ?_, ?_⟩ <;> (rintro rfl; exact hns (by rw [← hrd]; rfl))
        have hnot2 : c ≠ 9 ∧ c ≠ 13 := by
          refine ⟨?_, ?_⟩ <;> (rintro rfl; exact hns (by rw [← hrd]; rfl))
        have p1 : (one c == Str.ofString "\n") = false := one_lit lit_nl hnot.2.2
        have p3 : inB (one c) l.cm = false := inB_one (cm_no hcm hnot.1)
        have p4 : inB (one c) (Str.ofString "\\") = false := inB_one (has_of bs_is _ (by simpa using hnot.2.1))
        have p6 : inB (one c) (Str.ofString "") = false := inB_one (has_of nil_is _ (by simp))
        k_steps
        · (rename inB _ (Str.ofString " \t\r\n") = true => hb)
          (rename Fr g₁ L₁ _ _ => F9)
          (rename News g₁ L₁ _ _ => N9)
          have e32 := ws_yes hb hnot2.1 hnot2.2 hnot.2.2
          rw [if_pos e32] at hrd
          exact (rt_go hC F9 N9 ⟨.sp, [], false, r⟩ (fun p hp => hp) rfl rfl rfl (by simp) hn2 hr hrd (by simp) (by simp) (by simp) (by simp) (by simp) (by simp)).2
        · (rename inB _ (Str.ofString " \t\r\n") = false => hb1)
          (rename inB _ WC = true => hb2)
          (rename Fr g₁ L₁ _ _ => F9)
          (rename News g₁ L₁ _ _ => N9)
          have hw := ws_no hb1
          have hcq := wc_noq hb2
          rw [if_neg hw.1, if_neg hcq, if_pos (plain_is hw hcq hnot)] at hrd
          exact (rt_go hC F9 N9 ⟨.a, [c], false, r⟩ (fun p hp => hp) rfl rfl rfl (by simp) hn2 hr hrd (by simp) (by simp) (by simp) (by simp; omega) (by simp) (by simp)).1
        · (rename inB _ (Str.ofString " \t\r\n") = false => hb1)
          (rename inB _ (Str.ofString "'\"") = true => hb2)
          (rename Fr g₁ L₁ _ _ => F9)
          (rename News g₁ L₁ _ _ => N9)
          have hw := ws_no hb1
          have hcq := qs_yes hb2
          rw [if_neg hw.1, if_pos hcq] at hrd
          exact (rt_go hC F9 N9 ⟨.q c, [], false, r⟩ (fun p hp => hp) rfl rfl rfl (by simp) hn2 hr hrd (by simp) (by simp) (by simpa using hcq) (by simp) (by simp) (by simp)).1
        · (rename inB _ (Str.ofString " \t\r\n") = false => hb1)
          (rename inB _ (Str.ofString "'\"") = false => hb2)
          (rename Fr g₁ L₁ _ _ => F9)
          (rename News g₁ L₁ _ _ => N9)
          have hw := ws_no hb1
          have hcq := qs_no hb2
          rw [if_neg hw.1, if_neg hcq, if_pos (plain_is hw hcq hnot)] at hrd
          exact (rt_go hC F9 N9 ⟨.a, [c], false, r⟩ (fun p hp => hp) rfl rfl rfl (by simp) hn2 hr hrd (by simp) (by simp) (by simp) (by simp; omega) (by simp) (by simp)).1
      | a =>
        dsimp only [stVal] at N₃
        have hor := tok_or (hA9 rfl)
        have hF9 : ¬ (((tx tok).length : Nat) : Int) ≥ 2 ^ 63 := by simp [tx, Str.length]; omega
        rw [rd] at hrd
        have hz : (tx tok).length + (one c).length ≤ sizeLine := by
          rw [hl9]; simp [tx, one, Str.length]; omega
        have hnot : c ≠ 35 ∧ c ≠ 92 ∧ c ≠ 10 := by
          refine ⟨?_, ?_, ?_⟩ <;> (rintro rfl; exact hns (by rw [← hrd]; rfl))
        have hnot2 : c ≠ 9 ∧ c ≠ 13 := by
          refine ⟨?_, ?_⟩ <;> (rintro rfl; exact hns (by rw [← hrd]; rfl))
        have p1 : (one c == Str.ofString "\n") = false := one_lit lit_nl hnot.2.2
        have p3 : inB (one c) l.cm = false := inB_one (cm_no hcm hnot.1)
        have p4 : inB (one c) (Str.ofString "\\") = false := inB_one (has_of bs_is _ (by simpa using hnot.2.1))
        have p6 : inB (one c) (Str.ofString "") = false := inB_one (has_of nil_is _ (by simp))
        k_steps
        · (rename inB _ (Str.ofString " \t\r\n") = true => hb)
          (rename Fr g₁ L₁ _ _ => F9)
          (rename News g₁ L₁ _ _ => N9)
          have e32 := ws_yes hb hnot2.1 hnot2.2 hnot.2.2
          have : ¬ (tok = [] ∧ q = false) := fun e => by rcases hA9 rfl with h | h; exact h e.1; rw [e.2] at h; cases h
          rw [if_pos e32, if_neg this] at hrd
          exact rt_out hB F9 N9 tok q false (fun p hp => hp) rfl rfl hn2 (by rw [← hrd, hr, if_neg this])
        · (rename inB _ (Str.ofString " \t\r\n") = false => hb1)
          (rename inB _ (Str.ofString "'\"") = true => hb2)
          (rename Fr g₁ L₁ _ _ => F9)
          (rename News g₁ L₁ _ _ => N9)
          have hcq := qs_yes hb2
          rw [if_neg (by omega), if_pos hcq] at hrd
          exact (rt_go hC F9 N9 ⟨.q c, tok, q, r⟩ (fun p hp => hp) rfl rfl rfl (by simp) hn2 hr hrd (by simp) (by simp) (by simpa using hcq) (by simp; omega) (by simp) (by simp)).1
        · (rename inB _ (Str.ofString " \t\r\n") = false => hb1)
          (rename inB _ (Str.ofString "'\"") = false => hb2)
          (rename Fr g₁ L₁ _ _ => F9)
          (rename News g₁ L₁ _ _ => N9)
          have hw := ws_no hb1
          have hcq := qs_no hb2
          rw [if_neg hw.1, if_neg hcq, if_pos (plain_is hw hcq hnot)] at hrd
          rw [tx_add] at N9
          exact (rt_go hC F9 N9 ⟨.a, tok ++ [c], q, r⟩ (fun p hp => hp) rfl rfl rfl (by simp) hn2 hr hrd (by simp) (by simp) (by simp) (by simp; omega) (by simp) (by simp)).1
      | q k =>
        dsimp only [stVal] at N₃
        have hk9 := hq k rfl
        have s1 : (one k == Str.ofString " ") = false := one_lit lit_sp (by omega)
        have s2 : inB (one k) (Str.ofString "'\"") = true := inB_one (has_of qs_is _ (by simpa using hk9))
        rw [rd] at hrd
        have hz : (tx tok).length + (one c).length ≤ sizeLine := by
          rw [hl9]; simp [tx, one, Str.length]; omega
        have hnot : c = k ∨ c ≠ 10 := by
          by_cases e : c = k
          · exact .inl e
          · refine .inr ?_
            rintro rfl
            exact hns (by rw [← hrd, if_neg e]; rfl)
        have hn10 : c ≠ 10 := by omega
        have p1 : (one c == Str.ofString "\n") = false := one_lit lit_nl hn10
        k_steps
        · (rename (one _ == one _) = true => hb)
          (rename Fr g₁ L₁ _ _ => F9)
          (rename News g₁ L₁ _ _ => N9)
          rw [if_pos (one_eq hb)] at hrd
          exact (rt_go hC F9 N9 ⟨.a, tok, true, r⟩ (fun p hp => hp) rfl rfl rfl (by simp) hn2 hr hrd (by simp) (by simp) (by simp) (by simp; omega) (by simp) (by simp)).1
        · (rename (one _ == one _) = false => hb)
          (rename (_ && _) = true => hb2)
          (rename Fr g₁ L₁ _ _ => F9)
          (rename News g₁ L₁ _ _ => N9)
          rw [bs_iff, dq_iff] at hb2
          simp only [Bool.and_eq_true, decide_eq_true_eq] at hb2
          obtain ⟨rfl, rfl⟩ := hb2
          rw [if_neg (one_neq hb), if_neg (by omega), if_pos ⟨rfl, rfl⟩] at hrd
          exact (rt_go hC F9 N9 ⟨.esc, tok, true, r⟩ (fun p hp => hp) rfl rfl rfl (by simp) hn2 hr hrd (fun _ => ⟨_, rfl⟩) (by simp) (by simp) (by simp; omega) (by simp) (by simp)).1
        · (rename (one _ == one _) = false => hb)
          (rename (_ && _) = false => hb2)
          (rename Fr g₁ L₁ _ _ => F9)
          (rename News g₁ L₁ _ _ => N9)
          rw [bs_iff, dq_iff] at hb2
          rw [if_neg (one_neq hb), if_neg hn10, if_neg (by simpa using hb2)] at hrd
          rw [tx_add] at N9
          exact (rt_go hC F9 N9 ⟨.q k, tok ++ [c], true, r⟩ (fun p hp => hp) rfl rfl rfl (by simp) hn2 hr hrd (by simp) (by simp) (by simpa using hk9) (by simp; omega) (by simp) (by simp)).1
      | esc =>
        dsimp only [stVal] at N₃
        obtain ⟨te, rfl⟩ := hesc rfl
        rw [rd] at hrd
        have hn10 : c ≠ 10 := by rintro rfl; exact hns (by rw [← hrd]; rfl)
        have p1 : (one c == Str.ofString "\n") = false := one_lit lit_nl hn10
        have hz : (tx tok).length + (one c).length ≤ sizeLine := by
          rw [hl9]; simp [tx, one, Str.length]; omega
        have hz2 : (tx tok).length + (one 92).length ≤ sizeLine := by
          rw [hl9]; simp [tx, one, Str.length]; omega
        have hz3 : (tx tok ++ one 92).length + (one c).length ≤ sizeLine := by
          rw [hl9, tx_add]; simp [tx, one, Str.length]; omega
        k_steps
        · (rename (_ && _) = true => hb)
          (rename Fr g₁ L₁ _ _ => F9)
          (rename News g₁ L₁ _ _ => N9)
          simp only [Bool.and_eq_true, Bool.not_eq_true', beq_eq_false_iff_ne, ne_eq, Str.mk.injEq, one] at hb
          have hb1 : c ≠ 92 := fun e => hb.1 (by rw [e])
          have hb2 : c ≠ 34 := fun e => hb.2 (by rw [e])
          rw [if_neg hn10, if_neg (by omega)] at hrd
          rw [tx_add, tx_add] at N9
          have hrd' : rd (.q 34) (tok ++ [92] ++ [c]) q r = res := by rw [← hrd]; simp
          exact (rt_go hC F9 N9 ⟨.q 34, tok ++ [92] ++ [c], q, r⟩ (fun p hp => hp) rfl rfl rfl (by simp) hn2 hr hrd' (by simp) (by simp) (by simp) (by simp; omega) (by simp) (by simp)).1
        · (rename (_ && _) = false => hb)
          (rename Fr g₁ L₁ _ _ => F9)
          (rename News g₁ L₁ _ _ => N9)
          have hb1 : c = 92 ∨ c = 34 := by
            rcases Nat.decEq c 92 with e | e
            · rcases Nat.decEq c 34 with e' | e'
              · rw [one_ne e, one_ne e'] at hb; cases hb
              · exact .inr e'
            · exact .inl e
          rw [if_neg hn10, if_pos hb1] at hrd
          rw [tx_add] at N9
          exact (rt_go hC F9 N9 ⟨.q 34, tok ++ [c], q, r⟩ (fun p hp => hp) rfl rfl rfl (by simp) hn2 hr hrd (by simp) (by simp) (by simp) (by simp; omega) (by simp) (by simp)).1


/-! read_token at the end, get_token, __next__ -/
noncomputable def TokOut (w : World) (l : Lx) (res : RRes) (r : Value) (news' : Led) : Prop :=
  ∃ eof rem n' t6' ts' tt', n' ≤ l.buf.length ∧ l.buf.cps.toList.drop n' = rem ∧ news' = l.io w n' t6' :: l.sh w (if eof then .none else .str (Str.ofString " ") ts') (Str.ofString "") tt' :: l.rest ∧
    ((res = .done none eof rem ∧ r = .none) ∨ ∃ y tr, res = .done (some y) eof rem ∧ r = .str (tx y) tr)
theorem rt_none (w : World) (l : Lx) (ok : l.Ok) (n : Nat) (t6 tt : Tok) (hn0 : n = l.buf.length) :
    Sp w 698 [.ref l.lx] (l.io w n t6 :: l.sh w .none (Str.ofString "") tt :: l.rest) 8 100 False (TokOut w l (.done none true [])) := by
  intro p loose mean mg mb dp un cn cs a ccd cl outer A₀ base h₀ L m s Q E B F X N T hk hdp hun hret hrz
  obtain ⟨lx, ld, x, dx, pb, fs, t, t1, t2, t3, t4, t5, cm, buf, rest⟩ := l
  obtain ⟨h1, h2, h3, h4, hn1, hn2, hne, hlen, hcm⟩ := ok
  dsimp only at *
  have hne' : @Ne Nat ld dx := fun e => hne e.symm
  refine wpAny_call ?_
  k_dflt ktr_enter
  k_steps
  refine stop_elim (whl_start 1 (whl_turn (k := 0) (by passes_own) ?_))
  k_steps
  refine hret _ _ _ _ (by k_asm) (by k_asm) ⟨_, _, n, _, 0, _, Nat.le_of_eq hn0, ?_, rfl, .inl ⟨rfl, rfl⟩⟩
  rw [hn0]; simp [Str.length]
theorem kw6 : True := by
  k_with "exec While Compare cons nil" => (k_here; (with_reducible show wpAny _ _ (exec (Stmt.While (PySem.Expr.Compare (PySem.Expr.Name (Str.ofString "raw") _) _ _ _) _ _ _) _) _ _ _); refine stop_intro ?_)
  k_with "truthy ref" => (k_here; k_dflt (refine' dq_truthy ?k1 ?_; (case k1 => exact News.get (by k_asm) (by k_mem)); k_whole))
  trivial
section
variable {w : World} {p : Program} {loose : List Str} {mean : ExcName → Option Value} {mg mb : Str → Option Value} {dp un : Nat} {cn : Str} {cs : Scope} {a : Addr} {ccd : Value} {cl : List (Str × Addr)} {outer : List Env} {A₀ : Around} {base h₀ : Heap} {L : Addr} {m : Str → Option Value} {s : Shared} {Q E : Value → Shared → Prop}
theorem sp_call {f : Addr} {args : List Value} {news : Led} {dN uN : Nat} {rz : Prop} {Post : Value → Led → Prop} (S : Sp w f args news dN uN rz Post) (B : Below A₀ base outer h₀) (F : Fr h₀ L s.heap m) (X : (hd.heap_1 w.params).In h₀) (N : News h₀ L s.heap news) (T : Top p loose mean mg mb h₀) (hk : cs.kind = .function) (hd : dp + dN < recursionLimit) (hu : un + uN < cLine)
    (h : (∀ r news' h' tk', Fr h₀ L h' m → News h₀ L h' news' → Post r news' → Q r { s with heap := h', toks := tk' }) ∧
      (rz → ∀ e t tt g h' tk', Fr h₀ L g m → g.UpToSlots h' → RaisedK base (envX cn cs L a ccd cl :: outer) e (.type "ValueError") t [.str (Str.ofString "No closing quotation") tt] [] h' → E (.ref e) { s with heap := h', toks := tk' })) :
    wpAny (model prg w) (ktrTop dp un (some []) cn cs L a ccd cl outer) (call (.ref f) args) Q E s :=
  S p loose mean mg mb dp un cn cs a ccd cl outer A₀ base h₀ L m s Q E B F X N T hk hd hu h.1 h.2
end
theorem kw7 : True := by
  k_with "call ref" => (k_here; (with_reducible show wpAny _ _ (call (Value.ref 698) _) _ _ _); k_dflt (refine' sp_call ?kS ?k1 ?k2 ?k3 ?k4 ?k5 ?kK ?kd ?ku ?_; (case kS => assumption); (case kK => exact rfl); (case k1 => k_asm); (case k2 => k_asm); (case k3 => k_asm); (case k4 => k_asm); (case k5 => k_asm); (case kd => ktr_room); (case ku => ktr_units)); refine And.intro ?_ ?_; k_dflt (intro r' nw' h' tk' F' N' P'; obtain ⟨eof', rem', n9', a6', as', at', hn9', hd9', hw9', hz9'⟩ := P'; subst hw9'; rcases hz9' with ⟨hr9', hz9'⟩ | ⟨y', tr', hr9', hz9'⟩ <;> subst hz9'))
  trivial
theorem gt_ok (w : World) (l : Lx) (ok : l.Ok) (n : Nat) (t6 tt : Tok) (st : Value) (res : RRes) (S : Sp w 698 [.ref l.lx] (l.io w n t6 :: l.sh w st (Str.ofString "") tt :: l.rest) 8 100 (res = .raise) (TokOut w l res)) :
    Sp w 691 [.ref l.lx] (l.io w n t6 :: l.sh w st (Str.ofString "") tt :: l.rest) 12 140 (res = .raise) (TokOut w l res) := by
  intro p loose mean mg mb dp un cn cs a ccd cl outer A₀ base h₀ L m s Q E B F X N T hk hdp hun hret hrz
  obtain ⟨lx, ld, x, dx, pb, fs, t, t1, t2, t3, t4, t5, cm, buf, rest⟩ := l
  obtain ⟨h1, h2, h3, h4, hn1, hn2, hne, hlen, hcm⟩ := ok
  dsimp only at *
  have hne' : @Ne Nat ld dx := fun e => hne e.symm
  refine wpAny_call ?_
  k_dflt ktr_enter
  rename_i g₁ L₁ h₁ FG₁ F₁ N₁ B₁ X₁ T₁
  k_steps
  · refine stop_elim (whl_start 1 (whl_turn (k := 0) (by passes_own) ?_))
    k_steps
    exact hret _ _ _ _ (by k_asm) (by k_asm) ⟨_, _, _, _, _, _, by assumption, by assumption, rfl, .inl ⟨by assumption, rfl⟩⟩
  · refine stop_elim (whl_start 1 (whl_turn (k := 0) (by passes_own) ?_))
    k_steps
    exact hret _ _ _ _ (by k_asm) (by k_asm) ⟨_, _, _, _, _, _, by assumption, by assumption, rfl, .inr ⟨_, _, by assumption, rfl⟩⟩
  · (rename RaisedK _ _ _ _ _ _ _ _ => R9)
    (rename Heap.UpToSlots _ _ => U9)
    exact hrz (by assumption) _ _ _ _ _ _ FG₁ U9 R9


/-! shlex.__next__, as next() meets it -/
theorem owit_pass {M : Model} {A : Around} {s : Shared} {Q : Option Value → Shared → Prop} {E : Value → Shared → Prop} {base : Heap} {l : List Env} {e t : Addr} {vs : List Value} {news : Led} (R : RaisedK base l e (.type "ValueError") t vs news s.heap) (h : E (.ref e) s) : OwitStop M A Q E (.ref e) s := by
  obtain ⟨⟨B, hB, hl, hfl, _⟩, _⟩ := R
  obtain ⟨ob, hob, hobc⟩ := (flyingW_base hB hfl).there
  have hT : s.TypeIs (.ref e) "ValueError" := ⟨ob, hob, hobc⟩
  unfold OwitStop
  refine wpAny_isInstance (b := false) hT (by rw [isSubtype_type]; kernel_rfl) ?_
  rw [if_neg Bool.false_ne_true]
  exact h
theorem owit_stopB {M : Model} {A : Around} {s : Shared} {Q : Option Value → Shared → Prop} {E : Value → Shared → Prop} {base : Heap} {l : List Env} {e t : Addr} {vs : List Value} {news : Led} (R : RaisedK base l e (.type "StopIteration") t vs news s.heap) (h : base.StaysIn s.heap → (∀ q ∈ news, s.heap.get? q.1 = some q.2) → Q none s) : OwitStop M A Q E (.ref e) s := by
  obtain ⟨⟨B, hB, hl, hfl, _⟩, _⟩ := R
  have hf' := flyingW_base hB hfl
  obtain ⟨ob, hob, hobc⟩ := hf'.there
  have hT : s.TypeIs (.ref e) "StopIteration" := ⟨ob, hob, hobc⟩
  unfold OwitStop
  refine wpAny_isInstance (b := true) hT (by rw [isSubtype_type]; kernel_rfl) ?_
  rw [if_pos rfl]
  exact h hf'.1 fun q hq => hfl.1 _ _ (hl q hq).1
theorem kw8 : True := by
  k_with "call ref" => (k_here; (with_reducible show wpAny _ _ (call (Value.ref 691) _) _ _ _); k_dflt (refine' sp_call ?kS ?k1 ?k2 ?k3 ?k4 ?k5 ?kK ?kd ?ku ?_; (case kS => assumption); (case kK => exact rfl); (case k1 => k_asm); (case k2 => k_asm); (case k3 => k_asm); (case k4 => k_asm); (case k5 => k_asm); (case kd => ktr_room); (case ku => ktr_units)); refine And.intro ?_ ?_; k_dflt (intro r' nw' h' tk' F' N' P'; obtain ⟨eof', rem', n9', a6', as', at', hn9', hd9', hw9', hz9'⟩ := P'; subst hw9'; rcases hz9' with ⟨hr9', hz9'⟩ | ⟨y', tr', hr9', hz9'⟩ <;> subst hz9'))
  trivial
theorem nx_ok {w : World} {l : Lx} (ok : l.Ok) {n : Nat} {t6 tt : Tok} {st : Value} {res : RRes} (S : Sp w 691 [.ref l.lx] (l.io w n t6 :: l.sh w st (Str.ofString "") tt :: l.rest) 12 140 (res = .raise) (TokOut w l res))
    {p : Program} {loose : List Str} {mean : ExcName → Option Value} {mg mb : Str → Option Value} {dp un : Nat} {cn : Str} {cs : Scope} {a : Addr} {ccd : Value} {cl : List (Str × Addr)} {outer : List Env} {A₀ : Around} {base h₀ : Heap} {L : Addr} {m : Str → Option Value} {s : Shared} {Q : Option Value → Shared → Prop} {E : Value → Shared → Prop}
    (B : Below A₀ base outer h₀) (F : Fr h₀ L s.heap m) (X : (hd.heap_1 w.params).In h₀) (N : News h₀ L s.heap (l.io w n t6 :: l.sh w st (Str.ofString "") tt :: l.rest)) (T : Top p loose mean mg mb h₀) (hk : cs.kind = .function) (hdp : dp + 16 < recursionLimit) (hun : un + 180 < cLine)
    (hsome : ∀ y tr eof rem n' t6' ts' tt' h' tk', res = .done (some y) eof rem → n' ≤ l.buf.length → l.buf.cps.toList.drop n' = rem → Fr h₀ L h' m → News h₀ L h' (l.io w n' t6' :: l.sh w (if eof then .none else .str (Str.ofString " ") ts') (Str.ofString "") tt' :: l.rest) → Q (some (.str (tx y) tr)) { s with heap := h', toks := tk' })
    (hnone : ∀ eof rem g h' tk', res = .done none eof rem → Fr h₀ L g m → g.UpToSlots h' → base.StaysIn h' → (∀ q ∈ l.rest, h'.get? q.1 = some q.2) → Q none { s with heap := h', toks := tk' })
    (hrz : res = .raise → ∀ e t tt g h' tk', Fr h₀ L g m → g.UpToSlots h' → RaisedK base (envX cn cs L a ccd cl :: outer) e (.type "ValueError") t [.str (Str.ofString "No closing quotation") tt] [] h' → E (.ref e) { s with heap := h', toks := tk' }) :
    wpAny (model prg w) (ktrTop dp un (some []) cn cs L a ccd cl outer) (pyNext (.ref l.lx)) Q E s := by
  obtain ⟨lx, ld, x, dx, pb, fs, t, t1, t2, t3, t4, t5, cm, buf, rest⟩ := l
  obtain ⟨h1, h2, h3, h4, hn1, hn2, hne, hlen, hcm⟩ := ok
  dsimp only at *
  have hne' : @Ne Nat ld dx := fun e => hne e.symm
  k_dflt (refine' owit_next F X (InstAt.of_news N (List.mem_cons_of_mem _ (List.mem_cons_of_mem _ h1)) (List.mem_cons_of_mem _ List.mem_cons_self)) ?k4 ?k5 ?_; (case k4 => k_is); (case k5 => k_is))
  refine wpAny_call ?_
  k_dflt ktr_enter
  rename_i g₁ L₁ h₁ FG₁ F₁ N₁ B₁ X₁ T₁
  k_steps
  · (rename RaisedK _ _ _ _ _ _ _ _ => R9)
    (rename Heap.UpToSlots _ _ => U9)
    exact owit_stopB R9 fun k1 k2 => hnone _ _ _ _ _ (by assumption) FG₁ U9 k1 fun q hq => k2 q (List.mem_cons_of_mem _ (List.mem_cons_of_mem _ hq))
  · exact hsome _ _ _ _ _ _ _ _ _ _ (by assumption) (by assumption) (by assumption) (by k_asm) (by k_asm)
  · (rename RaisedK _ _ _ _ _ _ _ _ => R9)
    (rename Heap.UpToSlots _ _ => U9)
    exact owit_pass R9 (hrz (by assumption) _ _ _ _ _ _ FG₁ U9 R9)


/-! list(lex) -/
noncomputable abbrev lsO (acc : Array Value) (c : Nat) : Obj := { cls := .type "list", dict := none, data := .seq acc c, slots := #[] }
/-- the list's items are the texts ts -/
noncomputable def TextsAre (vs : List Value) (ts : List (List Nat)) : Prop := ∃ tk : List Tok, tk.length = ts.length ∧ vs = List.zipWith (fun y t => Value.str (tx y) t) ts tk
theorem TextsAre.nil : TextsAre [] [] := ⟨[], rfl, rfl⟩
theorem TextsAre.snoc {vs : List Value} {ts : List (List Nat)} {y : List Nat} {t : Tok} (h : TextsAre vs ts) : TextsAre (vs ++ [.str (tx y) t]) (ts ++ [y]) := by
  obtain ⟨tk, hl, rfl⟩ := h
  refine ⟨tk ++ [t], by simp [hl], ?_⟩
  rw [List.zipWith_append (by rw [hl])]
  rfl
section
variable {w : World} {p : Program} {loose : List Str} {mean : ExcName → Option Value} {mg mb : Str → Option Value} {dp un : Nat} {cn : Str} {cs : Scope} {a : Addr} {ccd : Value} {cl : List (Str × Addr)} {outer : List Env} {A₀ : Around} {base h₀ : Heap} {L : Addr} {m : Str → Option Value} {s₀ : Shared} {R : Result → Shared → Prop}
noncomputable def Lx.with (l : Lx) (S : Addr) (acc : Array Value) (c : Nat) : Lx := { l with rest := (S, lsO acc c) :: l.rest }
theorem Lx.Ok.with {l : Lx} (ok : l.Ok) {S : Addr} (h1 : @Ne Nat S l.dx) (h2 : @Ne Nat S l.ld) (acc : Array Value) (c : Nat) : (l.with S acc c).Ok where
  h1 := List.mem_cons_of_mem _ ok.h1
  h2 := List.mem_cons_of_mem _ ok.h2
  h3 := List.mem_cons_of_mem _ ok.h3
  h4 := List.mem_cons_of_mem _ ok.h4
  n1 := fun q hq => by
    rcases List.mem_cons.mp hq with rfl | hq
    · exact h1
    · exact ok.n1 q hq
  n2 := fun q hq => by
    rcases List.mem_cons.mp hq with rfl | hq
    · exact h2
    · exact ok.n2 q hq
  ne := ok.ne
  len := ok.len
  cm := ok.cm
theorem sp_weak {l : Lx} {f : Addr} {args : List Value} {news : Led} {res : RRes} {dN uN : Nat} (S : Sp w f args news dN uN (res = .raise)
      (fun r news' => ∃ o eof rem n' t6' ts' tt', res = .done o eof rem ∧ n' ≤ l.buf.length ∧ l.buf.cps.toList.drop n' = rem ∧ (match o with | none => r = .none | some y => ∃ tr, r = .str (tx y) tr) ∧
        news' = l.io w n' t6' :: l.sh w (if eof then .none else .str (Str.ofString " ") ts') (Str.ofString "") tt' :: l.rest)) : Sp w f args news dN uN (res = .raise) (TokOut w l res) := by
  intro p loose mean mg mb dp un cn cs a ccd cl outer A₀ base h₀ L m s Q E B F X N T hk hdp hun hret hrz
  refine S p loose mean mg mb dp un cn cs a ccd cl outer A₀ base h₀ L m s Q E B F X N T hk hdp hun ?_ hrz
  rintro r news' h' tk' F' N' ⟨o, eof, rem, n', t6', ts', tt', hr, hn', hd', ho, hw⟩
  refine hret r news' h' tk' F' N' ⟨eof, rem, n', t6', ts', tt', hn', hd', hw, ?_⟩
  cases o with
  | none => exact .inl ⟨hr, ho⟩
  | some y => obtain ⟨tr, ho⟩ := ho; exact .inr ⟨y, tr, hr, ho⟩
theorem sp_or {f : Addr} {args : List Value} {news : Led} {dN uN : Nat} {rz : Prop} {Post : Value → Led → Prop} (S : Sp w f args news dN uN False Post) : Sp w f args news dN uN rz Post := by
  intro p loose mean mg mb dp un cn cs a ccd cl outer A₀ base h₀ L m s Q E B F X N T hk hdp hun hret hrz
  exact S p loose mean mg mb dp un cn cs a ccd cl outer A₀ base h₀ L m s Q E B F X N T hk hdp hun hret (fun z => z.elim)
/-- at the end nothing is left -/
theorem rd_eof : ∀ {cs : List Nat} {st : LSt} {t : List Nat} {q : Bool} {o : Option (List Nat)} {rem : List Nat}, rd st t q cs = .done o true rem → rem = [] := by
  intro cs
  induction cs with
  | nil =>
    intro st t q o rem h
    cases st <;> simp only [rd] at h
    · cases h; rfl
    · split at h
      · cases h
      · cases h; rfl
    · cases h
    · cases h
  | cons c r ih =>
    intro st t q o rem h
    cases st <;> simp only [rd] at h <;> (repeat' split at h) <;> first | exact ih h | cases h
/-- one more turn of list.extend -/
theorem lex_turn {l : Lx} (ok : l.Ok) {S : Addr} (hS1 : @Ne Nat S l.dx) (hS2 : @Ne Nat S l.ld) (hSr : ∀ q ∈ l.rest, q.1 ≠ S) {n : Nat} {t6 tt : Tok} {st : Value} {res : RRes} {acc : Array Value} {c : Nat} {h : Heap} {tk : Nat} (hacc : acc.size ≤ 2000)
    (G : Sp w 691 [.ref l.lx] ((l.with S acc c).io w n t6 :: (l.with S acc c).sh w st (Str.ofString "") tt :: (l.with S acc c).rest) 12 140 (res = .raise) (TokOut w (l.with S acc c) res)) (hns : res ≠ .stuck)
    (B : Below A₀ base outer h₀) (F : Fr h₀ L h m) (X : (hd.heap_1 w.params).In h₀) (N : News h₀ L h ((l.with S acc c).io w n t6 :: (l.with S acc c).sh w st (Str.ofString "") tt :: (l.with S acc c).rest)) (T : Top p loose mean mg mb h₀) (hk : cs.kind = .function) (hdp : dp + 16 < recursionLimit) (hun : un + 200 < cLine)
    (hsome : ∀ y tr eof rem n' t6' ts' tt' c' h' tk', res = .done (some y) eof rem → n' ≤ l.buf.length → l.buf.cps.toList.drop n' = rem → Fr h₀ L h' m →
      News h₀ L h' ((l.with S (acc.push (.str (tx y) tr)) c').io w n' t6' :: (l.with S (acc.push (.str (tx y) tr)) c').sh w (if eof then .none else .str (Str.ofString " ") ts') (Str.ofString "") tt' :: (l.with S (acc.push (.str (tx y) tr)) c').rest) →
      codeAny (model prg w) (ktrTop dp un (some []) cn cs L a ccd cl outer) (.builtin "list.extend.loop" ⟨[.ref S, .ref l.lx, .none], []⟩) R { s₀ with heap := h', toks := tk' })
    (hnone : ∀ eof rem g h' tk', res = .done none eof rem → Fr h₀ L g m → g.UpToSlots h' → base.StaysIn h' → (∀ q ∈ (S, lsO acc c) :: l.rest, h'.get? q.1 = some q.2) → R (.ok (.ret .none)) { s₀ with heap := h', toks := tk' })
    (hrz : res = .raise → ∀ e t tt g h' tk', Fr h₀ L g m → g.UpToSlots h' → RaisedK base (envX cn cs L a ccd cl :: outer) e (.type "ValueError") t [.str (Str.ofString "No closing quotation") tt] [] h' → R (.error (.ref e)) { s₀ with heap := h', toks := tk' }) :
    codeAny (model prg w) (ktrTop dp un (some []) cn cs L a ccd cl outer) (.builtin "list.extend.loop" ⟨[.ref S, .ref l.lx, .none], []⟩) R { s₀ with heap := h, toks := tk } := by
  refine codeAny_builtin PySem.F.entry_extend_loop ?_
  rw [Around.under_plainId PySem.F.plain_extend_loop _]
  show wpAny _ (ktrTop dp (un + 1) (some []) cn cs L a ccd cl outer) (pyNext (.ref l.lx) >>= _) _ _ _
  refine wpAny_bind (nx_ok (l := l.with S acc c) (ok.with hS1 hS2 acc c) (s := { s₀ with heap := h, toks := tk }) G B F X N T hk hdp (by omega) ?_ ?_ ?_)
  · intro y tr eof rem n' t6' ts' tt' h' tk' hr hn' hd' F' N'
    have hS := N' (S, lsO acc c) (List.mem_cons_of_mem _ (List.mem_cons_of_mem _ List.mem_cons_self))
    show wpAny _ _ (updateSeq S (·.push (.str (tx y) tr)) >>= _) _ _ _
    refine wpAny_bind (wpAny_updateSeq hS.1 rfl ?_ (by show acc.size ≤ sizeLine; rw [sizeLine_eq]; omega) (by show (acc.push _).size ≤ sizeLine + 1; rw [Array.size_push, sizeLine_eq]; omega))
    refine wpAny_pure ⟨plainId_quiet PySem.F.plain_extend_loop _, ?_⟩
    have hs := Heap.SameBut.update h' S (Obj.mapSeq (·.push (.str (tx y) tr)))
    have hnew : (h'.update S (Obj.mapSeq (·.push (.str (tx y) tr)))).get? S = some (lsO (acc.push (.str (tx y) tr)) (c + 1)) := by
      rw [Heap.get?_update_self _ hS.1 (by rw [mapSeq_push]; rfl), mapSeq_push]
    refine hsome y tr eof rem n' t6' ts' tt' (c + 1) _ _ hr hn' hd' (F'.change hs hS.2.1 hS.2.2) ?_
    refine news_set (pre := [(l.with S acc c).io w n' t6', (l.with S acc c).sh w (if eof then .none else .str (Str.ofString " ") ts') (Str.ofString "") tt']) (D := S) (o := lsO acc c) (o' := lsO (acc.push (.str (tx y) tr)) (c + 1)) (post := l.rest) N' ?_ hSr hs hnew
    intro q hq
    rcases List.mem_cons.mp hq with rfl | hq
    · exact fun e => hS1 e.symm
    · rcases List.mem_cons.mp hq with rfl | hq
      · exact fun e => hS2 e.symm
      · cases hq
  · intro eof rem g h' tk' hr FG U K1 K2
    exact wpAny_pure (hnone eof rem g h' tk' hr FG U K1 K2)
  · intro hr e t tt g h' tk' FG U RK
    exact hrz hr e t tt g h' tk' FG U RK
/-- the whole loop, over the tokens of what is left -/
theorem lex_loop {l : Lx} (ok : l.Ok) {S : Addr} (hS1 : @Ne Nat S l.dx) (hS2 : @Ne Nat S l.ld) (hSr : ∀ q ∈ l.rest, q.1 ≠ S)
    (B : Below A₀ base outer h₀) (X : (hd.heap_1 w.params).In h₀) (T : Top p loose mean mg mb h₀) (hk : cs.kind = .function) (hdp : dp + 16 < recursionLimit) (hun : un + 200 < cLine) (out : LRes) (hout : out ≠ .stuck)
    (hdone : ∀ ts acc c g h' tk', out = .ok ts → TextsAre acc.toList ts → Fr h₀ L g m → g.UpToSlots h' → base.StaysIn h' → (∀ q ∈ (S, lsO acc c) :: l.rest, h'.get? q.1 = some q.2) → R (.ok (.ret .none)) { s₀ with heap := h', toks := tk' })
    (hrz : out = .raise → ∀ e t tt g h' tk', Fr h₀ L g m → g.UpToSlots h' → RaisedK base (envX cn cs L a ccd cl :: outer) e (.type "ValueError") t [.str (Str.ofString "No closing quotation") tt] [] h' → R (.error (.ref e)) { s₀ with heap := h', toks := tk' }) :
    ∀ (k n : Nat) (pre : List (List Nat)) (acc : Array Value) (c : Nat) (t6 ts tt : Tok) (h : Heap) (tk : Nat), k ≤ 1500 → acc.size + k ≤ 1600 → TextsAre acc.toList pre → n ≤ l.buf.length → pre.foldr LRes.cons (lexF k (l.buf.cps.toList.drop n)) = out → Fr h₀ L h m →
      News h₀ L h ((l.with S acc c).io w n t6 :: (l.with S acc c).sh w (.str (Str.ofString " ") ts) (Str.ofString "") tt :: (l.with S acc c).rest) →
      codeAny (model prg w) (ktrTop dp un (some []) cn cs L a ccd cl outer) (.builtin "list.extend.loop" ⟨[.ref S, .ref l.lx, .none], []⟩) R { s₀ with heap := h, toks := tk } := by
  intro k
  induction k with
  | zero =>
    intro n pre acc c t6 ts tt h tk _ _ _ _ ho
    exact absurd (by rw [← ho, lexF]; exact fold_stuck pre) hout
  | succ k ih =>
    intro n pre acc c t6 ts tt h tk hk1 hk2 htx hn ho F N
    have fs := fold_stuck pre
    have fr := fold_raise pre
    have fo := fun us => fold_ok us pre
    rw [lexF] at ho
    cases hres : rd .sp [] false (l.buf.cps.toList.drop n) with
    | stuck => rw [hres] at ho; exact absurd (ho.symm.trans fs) hout
    | raise =>
      rw [hres] at ho
      have ho' : out = .raise := ho.symm.trans fr
      have G := gt_ok w (l.with S acc c) (ok.with hS1 hS2 acc c) n t6 tt _ .raise (sp_weak (rt_ok w (l.with S acc c) (ok.with hS1 hS2 acc c) n t6 ts tt hn _ hres (by simp)))
      refine lex_turn ok hS1 hS2 hSr (by omega) G (by simp) B F X N T hk hdp hun ?_ ?_ ?_
      · intro y tr eof rem n' t6' ts' tt' c' h' tk' hr; cases hr
      · intro eof rem g h' tk' hr; cases hr
      · intro _; exact hrz ho'
    | done o eof rem =>
      rw [hres] at ho
      have G := gt_ok w (l.with S acc c) (ok.with hS1 hS2 acc c) n t6 tt _ _ (sp_weak (rt_ok w (l.with S acc c) (ok.with hS1 hS2 acc c) n t6 ts tt hn _ hres (by simp)))
      refine lex_turn ok hS1 hS2 hSr (by omega) G (by simp) B F X N T hk hdp hun ?_ ?_ ?_
      · intro y tr eof' rem' n' t6' ts' tt' c' h' tk' hr hn' hd' F' N'
        cases hr
        cases eof with
        | true =>
          have ho' : out = .ok (pre ++ [y]) := ho.symm.trans (fo _)
          have hn0 : n' = l.buf.length := drop_nil (by
            rw [hd']
            exact rd_eof hres) hn'
          have G' := gt_ok w (l.with S (acc.push (.str (tx y) tr)) c') (ok.with hS1 hS2 _ c') n' t6' tt' .none (.done none true []) (sp_or (rt_none w (l.with S (acc.push (.str (tx y) tr)) c') (ok.with hS1 hS2 _ c') n' t6' tt' hn0))
          refine lex_turn ok hS1 hS2 hSr (by rw [Array.size_push]; omega) G' (by simp) B F' X N' T hk hdp hun ?_ ?_ ?_
          · intro y tr eof rem n' t6' ts' tt' c' h' tk' hr; cases hr
          · intro eof rem g h' tk' hr FG U K1 K2
            exact hdone _ _ _ g h' tk' ho' (by rw [Array.toList_push]; exact htx.snoc) FG U K1 K2
          · intro hr; cases hr
        | false =>
          refine ih n' (pre ++ [y]) (acc.push (.str (tx y) tr)) c' t6' ts' tt' h' tk' (by omega) (by rw [Array.size_push]; omega) (by rw [Array.toList_push]; exact htx.snoc) hn' ?_ F' N'
          rw [List.foldr_append]
          rw [hd']
          exact ho
      · intro eof' rem' g h' tk' hr FG U K1 K2
        cases hr
        have ho' : out = .ok pre := by rw [← ho]; exact (fo []).trans (by rw [List.append_nil])
        exact hdone _ _ _ g h' tk' ho' htx FG U K1 K2
      · intro hr; cases hr
end


/-! list(lex): the call -/
section
variable {w : World} {p : Program} {loose : List Str} {mean : ExcName → Option Value} {mg mb : Str → Option Value} {dp un : Nat} {cn : Str} {cs : Scope} {a : Addr} {ccd : Value} {cl : List (Str × Addr)} {outer : List Env} {A₀ : Around} {base h₀ : Heap} {L : Addr} {m : Str → Option Value} {s : Shared} {E : Value → Shared → Prop}
theorem kw9 : True := by
  k_with "n ktr_unf" => (show BindsTo _ _ _ [(Str.ofString "self", Value.ref _)]; exact BindsTo.of_eq rfl)
  trivial
/-- iter(lex) is lex -/
theorem it_ok {l : Lx} {n : Nat} {t6 tt : Tok} {st : Value} {news : Led} {Q : Value → Shared → Prop} (h1 : (l.lx, instObj 730 l.ld) ∈ news) (h2 : l.sh w st (Str.ofString "") tt ∈ news)
    (B : Below A₀ base outer h₀) (F : Fr h₀ L s.heap m) (X : (hd.heap_1 w.params).In h₀) (N : News h₀ L s.heap news) (T : Top p loose mean mg mb h₀) (hk : cs.kind = .function) (hdp : dp + 16 < recursionLimit) (hun : un + 180 < cLine)
    (h : ∀ h' tk', Fr h₀ L h' m → News h₀ L h' news → Q (.ref l.lx) { s with heap := h', toks := tk' }) :
    wpAny (model prg w) (ktrTop dp un (some []) cn cs L a ccd cl outer) (pyIter (.ref l.lx)) Q E s := by
  obtain ⟨lx, ld, x, dx, pb, fs, t, t1, t2, t3, t4, t5, cm, buf, rest⟩ := l
  dsimp only at *
  k_dflt (refine' owit_iter F X (InstAt.of_news N h1 h2) ?k4 ?k5 ?_; (case k4 => k_is); (case k5 => k_is))
  refine wpAny_call ?_
  k_dflt ktr_enter
  k_steps
  exact h _ _ (by k_asm) (by k_asm)
theorem sh_nolen (w : World) : findIn (hd.heap_1 w.params) (.ref 730) (Str.ofString "__len__") = some none ∧ findIn (hd.heap_1 w.params) (.ref 730) (Str.ofString "__length_hint__") = some none := by
  exact ⟨by k_is, by k_is⟩
/-- list(lex), over the tokens of the whole text -/
theorem lex_list {l : Lx} (ok : l.Ok) {n : Nat} {t6 ts tt : Tok} {Q : Value → Shared → Prop} (hn : n ≤ l.buf.length)
    (B : Below A₀ base outer h₀) (F : Fr h₀ L s.heap m) (X : (hd.heap_1 w.params).In h₀) (N : News h₀ L s.heap (l.io w n t6 :: l.sh w (.str (Str.ofString " ") ts) (Str.ofString "") tt :: l.rest)) (T : Top p loose mean mg mb h₀) (hk : cs.kind = .function) (hdp : dp + 20 < recursionLimit) (hun : un + 220 < cLine)
    (out : LRes) (hout : out ≠ .stuck) (k : Nat) (hk1 : k ≤ 1500) (ho : lexF k (l.buf.cps.toList.drop n) = out)
    (hdone : ∀ S toks acc c g h' tk', out = .ok toks → TextsAre acc.toList toks → (∀ q ∈ l.rest, q.1 < S) → s.heap.objs.size ≤ S → base.get? S = none → Fr h₀ L g m → g.UpToSlots h' → base.StaysIn h' → (∀ q ∈ (S, lsO acc c) :: l.rest, h'.get? q.1 = some q.2) → Q (.ref S) { s with heap := h', toks := tk' })
    (hrz : out = .raise → ∀ e t tt g h' tk', Fr h₀ L g m → g.UpToSlots h' → RaisedK base (envX cn cs L a ccd cl :: outer) e (.type "ValueError") t [.str (Str.ofString "No closing quotation") tt] [] h' → E (.ref e) { s with heap := h', toks := tk' }) :
    wpAny (model prg w) (ktrTop dp un (some []) cn cs L a ccd cl outer) (call (.type "list") [.ref l.lx]) Q E s := by
  have hlt : ∀ q ∈ (l.io w n t6 :: l.sh w (.str (Str.ofString " ") ts) (Str.ofString "") tt :: l.rest), q.1 < s.heap.objs.size := fun q hq => Heap.lt_size (N q hq).1
  refine callType_codes (Q₁ := fun obj s₁ => obj = .ref s.heap.objs.size ∧ s₁ = { s with heap := s.heap.push { cls := .type "list", data := .seq #[] } }) PySem.F.called_list (PySem.F.typeCall_list_1 _) PySem.F.entry_list_init
    (code_list_new _ ⟨rfl, rfl⟩) fun obj s₁ h₁ => ?_
  obtain ⟨rfl, rfl⟩ := h₁
  have hS : (s.heap.push { cls := .type "list", data := .seq #[] }).get? s.heap.objs.size = some (lsO #[] 0) := Heap.get?_push_size _ rfl
  refine ⟨⟨_, hS, rfl⟩, PySem.F.args_list_init_2 _ _, ?_⟩
  have hS1 : @Ne Nat s.heap.objs.size l.dx := Nat.ne_of_gt (hlt _ List.mem_cons_self)
  have hS2 : @Ne Nat s.heap.objs.size l.ld := Nat.ne_of_gt (hlt _ (List.mem_cons_of_mem _ List.mem_cons_self))
  have hSr : ∀ q ∈ l.rest, q.1 ≠ s.heap.objs.size := fun q hq => Nat.ne_of_lt (hlt q (List.mem_cons_of_mem _ (List.mem_cons_of_mem _ hq)))
  have F1 := F.push (lsO #[] 0)
  have N1 := N.push F (lsO #[] 0)
  have hbS : base.get? s.heap.objs.size = none := fresh_of_stays B.stays (N1 _ List.mem_cons_self).2.2
  show wpAny _ (ktrTop dp (un + 1 + 1) (some []) cn cs L a ccd cl outer) (do let old ← Builtin.List.listItems (.ref s.heap.objs.size); Builtin.List.listUpdate (.ref s.heap.objs.size) (fun _ => #[]); letGo old.toList.reverse; Builtin.List.listExtendWith (.ref s.heap.objs.size) (.ref l.lx) .none) _ _ _
  refine wpAny_bind ?_
  unfold Builtin.List.listItems
  refine wpAny_bind (wpAny_seqItems hS rfl (wpAny_pure ?_))
  show wpAny _ _ (updateSeq s.heap.objs.size (fun _ => #[]) >>= fun _ => letGo (#[] : Array Value).toList.reverse >>= fun _ => Builtin.List.listExtendWith (.ref s.heap.objs.size) (.ref l.lx) .none) _ _ _
  refine wpAny_bind (wpAny_updateSeq hS rfl ?_)
  have hS₂ := Heap.get?_update_self (Obj.mapSeq (fun _ => (#[] : Array Value))) hS rfl
  have hs2 := Heap.SameBut.update (s.heap.push (lsO #[] 0)) s.heap.objs.size (Obj.mapSeq (fun _ => (#[] : Array Value)))
  have zS := N1 _ List.mem_cons_self
  have F2 := F1.change hs2 zS.2.1 zS.2.2
  have N2 := news_set (pre := []) (post := l.io w n t6 :: l.sh w (.str (Str.ofString " ") ts) (Str.ofString "") tt :: l.rest) N1 (fun _ hq => nomatch hq) (fun q hq => Nat.ne_of_lt (hlt q hq)) hs2 hS₂
  refine wpAny_bind (wpAny_letGo ?_)
  unfold Builtin.List.listExtendWith
  have hin : ∀ {h : Heap} {c : Nat}, News h₀ L h ((s.heap.objs.size, lsO #[] c) :: l.io w n t6 :: l.sh w (.str (Str.ofString " ") ts) (Str.ofString "") tt :: l.rest) → InstAt h l.lx (instObj 730 l.ld) 730 (some (shD w l.t l.x l.pb l.fs l.cm (.str (Str.ofString " ") ts) (Str.ofString "") tt)) := fun N => InstAt.of_news N (List.mem_cons_of_mem _ (List.mem_cons_of_mem _ (List.mem_cons_of_mem _ ok.h1))) (List.mem_cons_of_mem _ (List.mem_cons_of_mem _ List.mem_cons_self))
  refine wpAny_bind ((hin N2).type.here ?_)
  have h1 : Builtin.List.listSameRef (.ref s.heap.objs.size) (.ref l.lx) = false := by
    have : (s.heap.objs.size : Nat) ≠ l.lx := Nat.ne_of_gt (hlt _ (List.mem_cons_of_mem _ (List.mem_cons_of_mem _ ok.h1)))
    simp [Builtin.List.listSameRef, this]
  have h2 : (Value.ref 730 == Value.type "list") = false := by decide
  have h3 : (Value.ref 730 == Value.type "tuple") = false := by decide
  simp only [h1, h2, h3, Bool.or_false, Bool.false_eq_true, if_false]
  refine wpAny_bind (it_ok (n := n) (t6 := t6) (st := .str (Str.ofString " ") ts) (tt := tt) (List.mem_cons_of_mem _ (List.mem_cons_of_mem _ (List.mem_cons_of_mem _ ok.h1))) (List.mem_cons_of_mem _ (List.mem_cons_of_mem _ List.mem_cons_self)) B F2 X N2 T hk (by omega) (by omega) fun h3' tk3 F3 N3 => ?_)
  refine wpAny_bind (wpAny_holding ?_)
  unfold Builtin.List.listLengthHint
  have X3 := X.keeps F3.keep
  refine wpAny_bind (wpAny_bind ((hin N3).type.here ((looks_findIn X3 (sh_nolen w).1).here ?_)))
  show wpAny _ _ (specialOf (Value.ref l.lx) (Str.ofString "__length_hint__") >>= _) _ _ _
  refine wpAny_bind (wpAny_bind ((hin N3).type.here ((looks_findIn X3 (sh_nolen w).2).here ?_)))
  refine wpAny_pure ?_
  show wpAny _ _ (rule "list.extend.makes-room" >>= fun _ => Builtin.List.listTouch (.ref s.heap.objs.size) >>= fun _ =>
    again (.builtin "list.extend.loop" ⟨[.ref s.heap.objs.size, .ref l.lx, .none], []⟩)) _ _ _
  refine wpAny_bind (wpAny_rule ?_)
  refine wpAny_bind ?_
  show wpAny _ _ (updateSeq s.heap.objs.size (·.push .none) >>= fun _ => updateSeq s.heap.objs.size (·.pop)) _ _ _
  have z3 := N3 _ List.mem_cons_self
  refine wpAny_bind (wpAny_updateSeq z3.1 rfl ?_)
  have hs4 := Heap.SameBut.update h3' s.heap.objs.size (Obj.mapSeq (·.push Value.none))
  have hS4 := Heap.get?_update_self (Obj.mapSeq (·.push Value.none)) z3.1 rfl
  refine wpAny_updateSeq (hz := by seq_fits) hS4 rfl ?_
  have hs5 := Heap.SameBut.update (h3'.update s.heap.objs.size (Obj.mapSeq (·.push Value.none))) s.heap.objs.size (Obj.mapSeq (·.pop))
  have hS5 := Heap.get?_update_self (Obj.mapSeq (·.pop)) hS4 rfl
  have F5 := (F3.change hs4 z3.2.1 z3.2.2).change hs5 z3.2.1 z3.2.2
  have N5 := news_set (pre := []) (o' := lsO #[] 2) (post := l.io w n t6 :: l.sh w (.str (Str.ofString " ") ts) (Str.ofString "") tt :: l.rest) N3 (fun _ hq => nomatch hq) (fun q hq => Nat.ne_of_lt (hlt q hq)) (hs4.trans hs5) hS5
  refine wpAny_pure ⟨plainId_quiet PySem.F.plain_extend_loop _, ?_⟩
  refine lex_loop ok hS1 hS2 hSr B X T hk (dp := dp) (un := un + 1) (by omega) (by omega) out hout (s₀ := s) ?_ ?_ k n [] #[] 2 t6 ts tt _ _ hk1 (by simp; omega) TextsAre.nil hn ho F5 (fun q hq => N5 q ?_)
  · intro ts' acc c g h' tk' e1 e2 FG U K1 K2
    exact ⟨rfl, hdone _ _ _ _ g h' tk' e1 e2 (fun q hq => hlt q (List.mem_cons_of_mem _ (List.mem_cons_of_mem _ hq))) (Nat.le_refl _) hbS FG U K1 K2⟩
  · exact hrz
  · rcases List.mem_cons.mp hq with rfl | hq
    · exact List.mem_cons_of_mem _ List.mem_cons_self
    · rcases List.mem_cons.mp hq with rfl | hq
      · exact List.mem_cons_of_mem _ (List.mem_cons_of_mem _ List.mem_cons_self)
      · rcases List.mem_cons.mp hq with rfl | hq
        · exact List.mem_cons_self
        · exact List.mem_cons_of_mem _ (List.mem_cons_of_mem _ (List.mem_cons_of_mem _ hq))
end


/-! StringIO(x): made by its own __new__ -/
section
variable {w : World} {A : Around} {R : Result → Shared → Prop} {h : Heap} {g : Array GenState} {d : Drawn} {t : Nat} {os : OsState}
theorem sio_here (X : (hd.heap_1 w.params).In h) : Looks (model prg w) h (Bind.madeHere "object.__new__" (.ref 595)) () := Looks.of_peek X (by kernel_rfl)
theorem sio_type (X : (hd.heap_1 w.params).In h) : Looks (model prg w) h (isInstance (.ref 595) (.type "type")) true := Looks.of_peek X (by kernel_rfl)
theorem sio_self (X : (hd.heap_1 w.params).In h) : Looks (model prg w) h (isSubtype (.ref 595) (.ref 595)) true := Looks.of_peek X (by kernel_rfl)
theorem sio_made (X : (hd.heap_1 w.params).In h) : Looks (model prg w) h (Bind.madeBy (.ref 595)) none := Looks.of_peek X (by kernel_rfl)
theorem sio_call (X : (hd.heap_1 w.params).In h) : Looks (model prg w) h (specialOf (.ref 595) "__call__") (some (.builtin "type.__call__")) := Looks.of_peek X (by kernel_rfl)
theorem sio_mro (X : (hd.heap_1 w.params).In h) : Looks (model prg w) h (mroOf (.ref 595)) [.ref 595, .ref 118, .ref 91, .type "object"] := Looks.of_peek X (by kernel_rfl)
theorem sio_isType (X : (hd.heap_1 w.params).In h) : Looks (model prg w) h (isType (.ref 595)) true := Looks.of_peek X (by kernel_rfl)
theorem sio_init (X : (hd.heap_1 w.params).In h) : Looks (model prg w) h (typeLookup (.ref 595) "__init__") (some (.ref 365)) := Looks.of_peek X (by kernel_rfl)
theorem sio_cls (X : (hd.heap_1 w.params).In h) : ∃ oc od cd sl, h.get? 595 = some ⟨oc, od, .cls cd, sl⟩ ∧ cd.abstract = false ∧ cd.hasDel = false := by
  have e : ∃ oc od cd sl, (hd.heap_1 w.params).lookup 595 = some ⟨oc, od, .cls cd, sl⟩ ∧ cd.abstract = false ∧ cd.hasDel = false := ⟨_, _, _, _, by k_is, rfl, rfl⟩
  obtain ⟨oc, od, cd, sl, e, e1, e2⟩ := e
  exact ⟨oc, od, cd, sl, X _ _ e, e1, e2⟩
theorem sio_alloc (X : (hd.heap_1 w.params).In h) (hq : R (.ok (.ret (.ref (h.objs.size + 1)))) ⟨(h.push emptyDict).push (instObj 595 h.objs.size), g, d, t, os⟩) :
    codeAny (model prg w) A (.call (.builtin "object.__new__") ⟨[.ref 595], []⟩) R ⟨h, g, d, t, os⟩ := by
  obtain ⟨oc, od, cd, sl, hC, e1, e2⟩ := sio_cls X
  have here := sio_here X
  have isT := sio_isType X
  have F := PySem.F.objNew
  have chk : Looks (model prg w) h (checkBuiltinCall "object.__new__" ⟨[.ref 595], []⟩) () := Looks.of_peek X (by kernel_rfl)
  refine codeAny_call_builtin_code (Code.quiet_builtin _ F.quiet) ?_
  refine chk.here ?_
  refine codeAny_builtin F.entry ?_
  unfold Builtin.«object.__new__»
  have fin : ∀ A', wpAny (model prg w) A' (do
      let d ← if typeHasDict (.ref 595) then some <$> alloc { cls := .type "dict", data := .dict #[] } else pure none
      ret (← newObj (.ref 595) .plain d)) (fun fin s' => match fin with | .done f => R (.ok f) s' | .again c' => c'.quiet = true ∧ codeAny (model prg w) A c' R s') (fun e s' => R (.error e) s') ⟨h, g, d, t, os⟩ := by
    intro A'
    show wpAny _ _ ((alloc emptyDict >>= fun x => pure (some x)) >>= _) _ _ _
    refine wpAny_bind (wpAny_bind (wpAny_alloc (wpAny_pure (wpAny_bind ?_))))
    show wpAny _ _ (newObjAsIs _ _ _) _ _ _
    unfold newObjAsIs classHasDel
    refine wpAny_bind (wpAny_alloc (wpAny_bind (wpAny_bind (wpAny_load (Heap.get?_push_of_some _ (Heap.get?_push_of_some _ hC)) (wpAny_pure ?_)))))
    rw [e2]
    refine wpAny_pure (wpAny_pure ?_)
    show R _ _
    rw [Heap.size_push]
    exact hq
  repeat (first | simp only [e1, Bool.false_eq_true, if_false, bne_self_eq_false, Bool.not_true] | exact fin _ | lk)
end
section
variable {w : World} {A : Around} {h₀ : Heap} {L : Addr} {m : Str → Option Value} {s : Shared} {news : Led} {Q E : Value → Shared → Prop}
theorem sio_allocW (F : Fr h₀ L s.heap m) (X₀ : (hd.heap_1 w.params).In h₀) (N : News h₀ L s.heap news)
    (h : ∀ x dx h', Fr h₀ L h' m → News h₀ L h' ((x, instObj 595 dx) :: (dx, dictOf [] 0) :: news) → (∀ p ∈ news, p.1 < dx) → dx < x → Q (.ref x) { s with heap := h' }) :
    wpAny (model prg w) A (call (.builtin "object.__new__") [.ref 595]) Q E s := by
  refine wpAny_call ?_
  obtain ⟨hh, g, d, t, os⟩ := s
  refine sio_alloc (X₀.keeps F.keep) ?_
  have N' := (N.push F emptyDict).push (F.push _) (instObj 595 hh.objs.size)
  rw [Heap.size_push] at N'
  exact h _ hh.objs.size _ ((F.push _).push _) N' (fun p hp => Heap.lt_size (N p hp).1) (Nat.lt_succ_self _)
end
theorem kw10 : True := by
  k_with "call builtin:object.__new__" => (k_here; k_dflt (refine' sio_allocW ?k1 ?k2 ?k3 ?_; (case k1 => k_asm); (case k2 => k_asm); (case k3 => k_asm)); k_whole; intro x' dx' h' F' N' l1 l2; (try k_lt l1); (try k_lt2 l2); (try k_sweep))
  trivial
theorem allLt_all {d : Nat} {l : Led} (h : AllLt d l) : ∀ p ∈ l, @LT.lt Nat _ p.1 d := by
  induction l with
  | nil => intro p hp; cases hp
  | cons q r ih =>
    intro p hp
    have h' : @LT.lt Nat _ q.1 d ∧ AllLt d r := h
    rcases List.mem_cons.mp hp with e | hp
    · rw [e]; exact h'.1
    · exact ih h'.2 p hp
theorem news_drop {h₀ h : Heap} {L : Addr} {p1 p2 p3 p4 : Addr × Obj} {news : Led} (N : News h₀ L h (p1 :: p2 :: p3 :: p4 :: news)) : News h₀ L h (p1 :: p2 :: news) := fun q hq => by
  rcases List.mem_cons.mp hq with rfl | hq
  · exact N _ List.mem_cons_self
  · rcases List.mem_cons.mp hq with rfl | hq
    · exact N _ (List.mem_cons_of_mem _ List.mem_cons_self)
    · exact N _ (List.mem_cons_of_mem _ (List.mem_cons_of_mem _ (List.mem_cons_of_mem _ (List.mem_cons_of_mem _ hq))))
/-- IOBase.__new__(StringIO, x) -/
theorem new_ok (w : World) (x : Str) (t : Tok) (news : Led) : Sp w 88 [.ref 595, .str x t] news 4 60 False (fun r news' => ∃ ix dx, r = .ref ix ∧ (∀ p ∈ news, p.1 < dx) ∧ dx < ix ∧ news' = (ix, instObj 595 dx) :: (dx, dictOf [] 0) :: news) := by
  intro p loose mean mg mb dp un cn cs a ccd cl outer A₀ base h₀ L m s Q E B F X N T hk hdp hun hret hrz
  refine wpAny_call ?_
  k_dflt (refine' kp_both ?k1 ?k2 ?k3 ?k4 ?k5 ?kA ?kF ?kK ?k6 ?k7 ?k8 ?kV ?kX ?kQ ?kM ?kN ?kD ?kR ?kP ?kS ?kT ?kB ?_ ?c2 ?c3 ?c4 ?c5; (case kA => exact rfl); (case kF => exact rfl); (case kK => assumption); (case k1 => k_asm); (case k2 => k_asm); (case k3 => k_asm); (case k4 => k_asm); (case k5 => k_asm); (case k6 => k_is); (case k7 => k_is); (case k8 => ktr_room); (case kV => kp_lit); (case kX => kp_lit); (case kQ => exact rfl); (case kM => exact rfl); (case kN => exact rfl); (case kD => kp_flats); (case kR => exact rfl); (case kP => exact rfl); (case kS => exact fun _ => rfl); (case kT => exact fun _ _ => rfl); (case kB => exact fun _ _ => locs rfl); (case c5 => decide); (case c2 => exact rfl); (case c3 => exact rfl); (case c4 => exact rfl))
  intro C' D' o' g' L' h' tk' l1 l2 lo' hs' fs' FG' F' N' B' X' T'
  k_steps
  (rename_i kF9 kN9 _ _)
  have N9 := news_drop kN9
  refine hret _ _ _ _ kF9 N9 ?_
  refine ⟨_, _, rfl, ?_, ?_, rfl⟩
  · exact allLt_all (And.right (And.right (by assumption)))
  · assumption


/-- StringIO.__init__(self, x) -/
theorem kw11 : True := by
  k_with "n ktr_unf" => (show BindsTo _ _ _ [(Str.ofString "self", Value.ref _), (Str.ofString "initial_value", Value.str _ _), (Str.ofString "newline", Value.str _ _)]; exact binds_K (by k_in) rfl (by k_is) rfl rfl rfl)
  trivial
theorem init_ok (w : World) (x : Str) (t : Tok) (ix dx : Addr) (news : Led) (h1 : @LT.lt Nat _ dx ix) (h2 : ∀ p ∈ news, p.1 ≠ dx) :
    Sp w 365 [.ref ix, .str x t] ((ix, instObj 595 dx) :: (dx, dictOf [] 0) :: news) 6 90 False (fun r news' => r = .none ∧ ∃ t1 t2 t3 t4 t5 t6, news' = (ix, instObj 595 dx) :: (dx, sioD w t1 t2 t3 t4 t5 t6 x 0) :: news) := by
  intro p loose mean mg mb dp un cn cs a ccd cl outer A₀ base h₀ L m s Q E B F X N T hk hdp hun hret hrz
  have h3 : @Ne Nat ix dx := Nat.ne_of_gt h1
  refine wpAny_call ?_
  k_dflt ktr_enter
  k_steps
  exact hret _ _ _ _ (by k_asm) (by k_asm) ⟨rfl, _, _, _, _, _, _, rfl⟩


/-- StringIO(x) -/
theorem sio_get (w : World) : typeIn (hd.heap_1 w.params) (.ref 595) = some (.type "type") ∧ readsIn (hd.heap_1 w.params) 595 (.type "type") = true ∧
    findCls (hd.heap_1 w.params) (.ref 595) (.type "type") (Str.ofString "__new__") = some (.get (.builtin "staticmethod.__get__") (.ref 92) .none (.ref 595)) ∧ (∃ rest, recIn (hd.heap_1 w.params) 92 "staticmethod" = some (.ref 88 :: rest)) := by
  exact ⟨by k_is, by k_is, by k_is, _, by k_is⟩
theorem sio_initfn (w : World) : findIn (hd.heap_1 w.params) (.ref 595) "__init__" = some (some (.ref 365)) ∧ typeIn (hd.heap_1 w.params) (.ref 365) = some (.type "function") := by
  exact ⟨by k_is, by k_is⟩
theorem sio_make (w : World) (x : Str) (t : Tok) (news : Led) : Sp w 595 [.str x t] news 8 110 False (fun r news' => ∃ ix dx t1 t2 t3 t4 t5 t6, r = .ref ix ∧ (∀ p ∈ news, p.1 < dx) ∧ dx < ix ∧ news' = (ix, instObj 595 dx) :: (dx, sioD w t1 t2 t3 t4 t5 t6 x 0) :: news) := by
  intro p loose mean mg mb dp un cn cs a ccd cl outer A₀ base h₀ L m s Q E B F X N T hk hdp hun hret hrz
  have Xh := X.keeps F.keep
  obtain ⟨oc, od, cd, sl, hC, e1, e2⟩ := sio_cls Xh
  refine wpAny_call ?_
  refine codeAny_of_tree ?_
  show wpAny _ _ (callAny (.ref 595) _) _ _ _
  refine nd_load hC ?_
  show wpAny _ _ (callAny.viaDunder (.ref 595) _) _ _ _
  unfold callAny.viaDunder
  refine wpAny_bind ((sio_call Xh).at ?_)
  dsimp only
  rw [tc_bind]
  refine wpAny_bind (wpAny_pure (wpAny_bind (wpAny_pure ?_)))
  refine wpAny_pure (a := Fin.again (.call (.builtin "type.__call__") ⟨.ref 595 :: [.str x t], []⟩)) (And.intro rfl ?_)
  refine codeAny_call_builtin_at (Code.quiet_builtin _ (by decide +kernel)) entry_typeCall (check_slot tc_kind tc_split (sio_type Xh) (tc_args _ _ _) ?_)
  unfold Builtin.«type.__call__»
  have hm := sio_mro Xh
  have hmd := sio_made Xh
  obtain ⟨g1, g2, g3, grest, g4⟩ := sio_get w
  have hdep : (ktrTop dp un (some []) cn cs L a ccd cl outer).under (.builtin "type.__call__" ⟨.ref 595 :: [.str x t], []⟩) = ktrTop (dp + 1) (un + 1) (some []) cn cs L a ccd cl outer := rfl
  rw [hdep]
  repeat (first | (refine sp_call (s := { s with toks := s.toks + 1 }) (new_ok w x t news) B F X N T hk (by omega) (by omega) ⟨?_, fun z => z.elim⟩) | (refine wpAny_bind (cls_sm (rest := grest) F X g1 g2 g3 g4 rfl ?_)) | simp only [List.isEmpty_cons, Bool.false_eq_true, if_false] | lk)
  rintro r news' h1 tk1 F1 N1 ⟨ix, dx, rfl, hlt, hlt2, rfl⟩
  have X1 := X.keeps F1.keep
  have t1 : Looks (model prg w) h1 (typeOf (.ref ix)) (.ref 595) := (Looks.ld (N1 _ (.head _)).1).andThen .now
  have s1 := sio_self X1
  have i1 := sio_init X1
  have b1 : Looks (model prg w) h1 (bindSpecial (.ref 365) (.ref ix)) (.ref 365, [.ref ix]) := bind_fn X1 _ (sio_initfn w).2
  unfold isInstance callSpecial? specialOf
  repeat (first | (refine sp_call (s := { s with heap := h1, toks := tk1 }) (init_ok w x t ix dx news hlt2 (fun p hp => Nat.ne_of_lt (hlt p hp))) B F1 X N1 T hk (by omega) (by omega) ⟨?_, fun z => z.elim⟩) | lk)
  rintro r news' h2 tk2 F2 N2 ⟨rfl, t1', t2, t3, t4, t5, t6, rfl⟩
  exact wpAny_pure (wpAny_pure (hret _ _ _ _ F2 N2 ⟨ix, dx, t1', t2, t3, t4, t5, t6, rfl, hlt, hlt2, rfl⟩))


/-! split -/
section
variable {prog : Program} {w : World} {p : Program} {loose : List Str} {mean : ExcName → Option Value} {mg mb : Str → Option Value} {A A₀ : Around} {K : Frag} {base h₀ : Heap} {L : Addr} {m : Str → Option Value} {s : Shared} {news : Led}
/-- a def entered; what it gives back is told as it is -/
theorem code_defR {env : Env} {outer : List Env} {R : Result → Shared → Prop} {name qual : Str} {params : Arguments} {body : List Stmt} {scope : Scope} {dV kV doc pm cdv ct oc : Value} {an od : Option Addr} {osl : Array (Option Value)} {f : Addr} {args : Args} {binds : List (Str × Value)}
    (B : Below A₀ base outer h₀) (F : Fr h₀ L s.heap m) (X₀ : K.In h₀) (N : News h₀ L s.heap news) (T : Top p loose mean mg mb h₀) (hA : A.frames = some (env :: outer)) (hf : env.frame = some L) (hke : env.scope.kind = .function)
    (ho : K.lookup f = some ⟨oc, od, .func (fnOf name qual params body scope dV kV doc pm an cdv ct), osl⟩) (hcd : codeIn K cdv qual = true) (hroom : A.depth < recursionLimit)
    (hbind : BindsTo s (fnOf name qual params body scope dV kV doc pm an cdv ct) args binds) (hloc : ∀ y ∈ binds, scope.names.lookup y.1 = some .local)
    (h : ∀ g L' h₁, Fr h₀ L g m → Fr g L' h₁ (fun y => binds.reverse.lookup y) → News g L' h₁ news → Below A base (env :: outer) g → K.In g → Top p loose mean mg mb g →
      wpAny (model prog w) (A.deeper (envOf qual scope L' f cdv)) (execs body (envOf qual scope L' f cdv))
        (fun fl s' => R (.ok (.ret (match fl with | .ret v => v | _ => .none))) s')
        (fun e s' => wpAny (model prog w) (A.deeper (envOf qual scope L' f cdv)) (leaving (envOf qual scope L' f cdv) e) (fun _ s'' => R (.error e) s'') (fun e' s'' => R (.error e') s'') s')
        { s with heap := h₁, toks := s.toks + binds.length })
    (hco : scope.isCoroutine = false) (hgen : scope.isGenerator = false) (hk : scope.kind = .function)
    (hcell : ∀ x ∈ scope.names, x.2 ≠ .cell) : codeAny (model prog w) A (.call (.ref f) args) R s := by
  obtain ⟨FG, BG, st, lv⟩ := groundX (R := R) B F N hA hf hke
  refine codeAny_call_def (fd := fnX name qual params body scope [] dV kV doc pm an cdv ct) (body := body) (binds := binds) hroom ((X₀.keeps F.keep) _ _ ho) rfl (T.nolimit.keeps F.keep) (codeRec_of (X₀.keeps F.keep) hcd) rfl hbind hcell hloc (fun h₁ hns hk₁ => ?_) hco hgen hk
  exact h _ s.heap.objs.size h₁ FG ⟨hns, fun b o e => hk₁ b o (of_hideAll _ e), Nat.le_of_eq (hideAll_size _ _)⟩
    (fun p hp => ⟨hk₁ _ _ (N p hp).1, Nat.ne_of_lt (Heap.lt_size (N p hp).1), hideAll_none _ (List.mem_map_of_mem hp)⟩) BG (X₀.keeps st) (T.keeps st)
end
/-- a contract of a def that is called from the first frame: it may catch within -/
noncomputable def SpB (w : World) (f : Addr) (args : List Value) (news : Led) (dN uN : Nat) (rz : Prop) (Post : Value → Led → Prop) : Prop :=
  ∀ (p : Program) (loose : List Str) (mean : ExcName → Option Value) (mg mb : Str → Option Value) (dp un : Nat) (cn : Str) (cs : Scope) (a : Addr) (ccd : Value) (cl : List (Str × Addr)) (outer : List Env) (A₀ : Around) (h₀ : Heap) (L : Addr) (m : Str → Option Value) (s : Shared) (Q E : Value → Shared → Prop),
    Below A₀ h₀ outer h₀ → Fr h₀ L s.heap m → (hd.heap_1 w.params).In h₀ → News h₀ L s.heap news → Top p loose mean mg mb h₀ → cs.kind = .function → dp + dN < recursionLimit → un + uN < cLine →
    (∀ r news' h' tk', Fr h₀ L h' m → News h₀ L h' news' → Post r news' → Q r { s with heap := h', toks := tk' }) →
    (rz → ∀ e t tt g h' tk', Fr h₀ L g m → g.UpToSlots h' → RaisedK h₀ (envX cn cs L a ccd cl :: outer) e (.type "ValueError") t [.str (Str.ofString "No closing quotation") tt] [] h' → E (.ref e) { s with heap := h', toks := tk' }) →
    wpAny (model prg w) (ktrTop dp un (some []) cn cs L a ccd cl outer) (call (.ref f) args) Q E s
noncomputable def tokF (l : List Tok) (i : Nat) : Tok := l.getD i 0
section
variable {w : World} {p : Program} {loose : List Str} {mean : ExcName → Option Value} {mg mb : Str → Option Value} {dp un : Nat} {cn : Str} {cs : Scope} {a : Addr} {ccd : Value} {cl : List (Str × Addr)} {outer : List Env} {A₀ : Around} {base h₀ : Heap} {L : Addr} {m : Str → Option Value} {s : Shared} {Q E : Value → Shared → Prop}
/-- list(lex), over the ledger as split leaves it -/
theorem split_end {x : Str} {news : Led} {d lxA dx ix p1 p2 : Addr} {t1 t2 t3 t4 t5 t6 ts tt u0 u1 u2 u3 u4 u5 u6 u7 u8 u9 u10 u11 u12 u13 u14 u15 u16 u17 u18 u19 u20 u21 u22 u23 u24 u25 u26 u27 : Tok} {cm wc : Str} (hwc : wc = WC) (hcm : cm = Str.ofString "" ∨ cm = Str.ofString "#") (hx : x.length ≤ 1000)
    (h0 : ∀ q ∈ news, q.1 < d) (h1 : d < lxA) (h2 : lxA < dx ∧ d < dx ∧ AllLt dx news) (h3 : dx < ix) (h4 : ix < p1 ∧ dx < p1 ∧ lxA < p1 ∧ d < p1 ∧ AllLt p1 news) (h5 : p1 < p2 ∧ ix < p2 ∧ dx < p2 ∧ lxA < p2 ∧ d < p2 ∧ AllLt p2 news)
    (N : News h₀ L s.heap ((p2, dqObj) :: (p1, dqObj) :: (ix, instObj 595 dx) :: (dx, sioD w t1 t2 t3 t4 t5 t6 x 0) :: (lxA, instObj 730 d) :: (d, dictOf [strE w (Str.ofString "instream") u0 (.ref ix), strE w (Str.ofString "infile") u1 (.none), strE w (Str.ofString "posix") u2 (.bool true), strE w (Str.ofString "eof") u3 (.none), strE w (Str.ofString "commenters") u4 (.str cm u5), strE w (Str.ofString "wordchars") u6 (.str wc u7), strE w (Str.ofString "whitespace") u8 (.str (Str.ofString " \t\r\n") u9), strE w (Str.ofString "whitespace_split") u10 (.bool true), strE w (Str.ofString "quotes") u11 (.str (Str.ofString "'\"") u12), strE w (Str.ofString "escape") u13 (.str (Str.ofString "\\") u14), strE w (Str.ofString "escapedquotes") u15 (.str (Str.ofString "\"") u16), strE w (Str.ofString "state") u17 (.str (Str.ofString " ") ts), strE w (Str.ofString "pushback") u18 (.ref p1), strE w (Str.ofString "lineno") u19 (.int 1 u20), strE w (Str.ofString "debug") u21 (.int 0 u22), strE w (Str.ofString "token") u23 (.str (Str.ofString "") tt), strE w (Str.ofString "filestack") u24 (.ref p2), strE w (Str.ofString "source") u25 (.none), strE w (Str.ofString "_punctuation_chars") u26 (.str (Str.ofString "") u27)] 19) :: news))
    (B : Below A₀ base outer h₀) (F : Fr h₀ L s.heap m) (X : (hd.heap_1 w.params).In h₀) (T : Top p loose mean mg mb h₀) (hk : cs.kind = .function) (hdp : dp + 20 < recursionLimit) (hun : un + 220 < cLine)
    (out : LRes) (hout : out ≠ .stuck) (k : Nat) (hk1 : k ≤ 1500) (ho : lexF k x.cps.toList = out)
    (hdone : ∀ S toks acc c g h' tk', out = .ok toks → TextsAre acc.toList toks → (∀ q ∈ news, q.1 < S) → s.heap.objs.size ≤ S → base.get? S = none → Fr h₀ L g m → g.UpToSlots h' → base.StaysIn h' → (∀ q ∈ (S, lsO acc c) :: news, h'.get? q.1 = some q.2) → Q (.ref S) { s with heap := h', toks := tk' })
    (hrz : out = .raise → ∀ e t tt g h' tk', Fr h₀ L g m → g.UpToSlots h' → RaisedK base (envX cn cs L a ccd cl :: outer) e (.type "ValueError") t [.str (Str.ofString "No closing quotation") tt] [] h' → E (.ref e) { s with heap := h', toks := tk' }) :
    wpAny (model prg w) (ktrTop dp un (some []) cn cs L a ccd cl outer) (call (.type "list") [.ref lxA]) Q E s := by
  subst hwc
  have n0 : ∀ q ∈ news, @LT.lt Nat _ q.1 d := h0
  have i1 : @LT.lt Nat _ d lxA := h1
  have i2 : @LT.lt Nat _ lxA dx := h2.1
  have i3 : @LT.lt Nat _ dx ix := h3
  have i4 : @LT.lt Nat _ ix p1 := h4.1
  have i5 : @LT.lt Nat _ p1 p2 := h5.1
  have all : ∀ y : Nat, (∀ q ∈ news, @Ne Nat q.1 y) → @Ne Nat p2 y → @Ne Nat p1 y → @Ne Nat ix y → @Ne Nat lxA y → ∀ q ∈ ((p2, dqObj) :: (p1, dqObj) :: (ix, instObj 595 dx) :: (lxA, instObj 730 d) :: news), @Ne Nat q.1 y := by
    intro y a1 a2 a3 a4 a5 q hq
    simp only [List.mem_cons] at hq
    rcases hq with rfl | rfl | rfl | rfl | hq
    · exact a2
    · exact a3
    · exact a4
    · exact a5
    · exact a1 q hq
  refine lex_list (l := ⟨lxA, d, ix, dx, p1, p2, tokF [u0, u1, u2, u3, u4, u5, u6, u7, u8, u9, u10, u11, u12, u13, u14, u15, u16, u17, u18, u19, u20, u21, u22, u23, u24, u25, u26, u27], t1, t2, t3, t4, t5, cm, x, (p2, dqObj) :: (p1, dqObj) :: (ix, instObj 595 dx) :: (lxA, instObj 730 d) :: news⟩) (n := 0) (t6 := t6) (ts := ts) (tt := tt) ⟨?_, ?_, ?_, ?_, ?_, ?_, ?_, hx, hcm⟩ (Nat.zero_le _) B F X ?_ T hk hdp hun out hout k hk1 ho ?_ hrz
  · simp
  · simp
  · simp
  · simp
  · exact all dx (fun q hq => by have := n0 q hq; omega) (by omega) (by omega) (by omega) (by omega)
  · exact all d (fun q hq => by have := n0 q hq; omega) (by omega) (by omega) (by omega) (by omega)
  · show @Ne Nat dx d; omega
  · intro q hq
    refine N q ?_
    have e : ∀ q, q ∈ ((dx, sioD w t1 t2 t3 t4 t5 t6 x 0) :: (d, dictOf [strE w (Str.ofString "instream") u0 (.ref ix), strE w (Str.ofString "infile") u1 (.none), strE w (Str.ofString "posix") u2 (.bool true), strE w (Str.ofString "eof") u3 (.none), strE w (Str.ofString "commenters") u4 (.str cm u5), strE w (Str.ofString "wordchars") u6 (.str WC u7), strE w (Str.ofString "whitespace") u8 (.str (Str.ofString " \t\r\n") u9), strE w (Str.ofString "whitespace_split") u10 (.bool true), strE w (Str.ofString "quotes") u11 (.str (Str.ofString "'\"") u12), strE w (Str.ofString "escape") u13 (.str (Str.ofString "\\") u14), strE w (Str.ofString "escapedquotes") u15 (.str (Str.ofString "\"") u16), strE w (Str.ofString "state") u17 (.str (Str.ofString " ") ts), strE w (Str.ofString "pushback") u18 (.ref p1), strE w (Str.ofString "lineno") u19 (.int 1 u20), strE w (Str.ofString "debug") u21 (.int 0 u22), strE w (Str.ofString "token") u23 (.str (Str.ofString "") tt), strE w (Str.ofString "filestack") u24 (.ref p2), strE w (Str.ofString "source") u25 (.none), strE w (Str.ofString "_punctuation_chars") u26 (.str (Str.ofString "") u27)] 19) :: (p2, dqObj) :: (p1, dqObj) :: (ix, instObj 595 dx) :: (lxA, instObj 730 d) :: news) → q ∈ ((p2, dqObj) :: (p1, dqObj) :: (ix, instObj 595 dx) :: (dx, sioD w t1 t2 t3 t4 t5 t6 x 0) :: (lxA, instObj 730 d) :: (d, dictOf [strE w (Str.ofString "instream") u0 (.ref ix), strE w (Str.ofString "infile") u1 (.none), strE w (Str.ofString "posix") u2 (.bool true), strE w (Str.ofString "eof") u3 (.none), strE w (Str.ofString "commenters") u4 (.str cm u5), strE w (Str.ofString "wordchars") u6 (.str WC u7), strE w (Str.ofString "whitespace") u8 (.str (Str.ofString " \t\r\n") u9), strE w (Str.ofString "whitespace_split") u10 (.bool true), strE w (Str.ofString "quotes") u11 (.str (Str.ofString "'\"") u12), strE w (Str.ofString "escape") u13 (.str (Str.ofString "\\") u14), strE w (Str.ofString "escapedquotes") u15 (.str (Str.ofString "\"") u16), strE w (Str.ofString "state") u17 (.str (Str.ofString " ") ts), strE w (Str.ofString "pushback") u18 (.ref p1), strE w (Str.ofString "lineno") u19 (.int 1 u20), strE w (Str.ofString "debug") u21 (.int 0 u22), strE w (Str.ofString "token") u23 (.str (Str.ofString "") tt), strE w (Str.ofString "filestack") u24 (.ref p2), strE w (Str.ofString "source") u25 (.none), strE w (Str.ofString "_punctuation_chars") u26 (.str (Str.ofString "") u27)] 19) :: news) := by
      intro q hq
      simp only [List.mem_cons] at hq ⊢
      rcases hq with hq | hq | hq | hq | hq | hq | hq
      · exact .inr (.inr (.inr (.inl hq)))
      · exact .inr (.inr (.inr (.inr (.inr (.inl hq)))))
      · exact .inl hq
      · exact .inr (.inl hq)
      · exact .inr (.inr (.inl hq))
      · exact .inr (.inr (.inr (.inr (.inl hq))))
      · exact .inr (.inr (.inr (.inr (.inr (.inr hq)))))
    exact e q hq
  · intro S toks acc c g h' tk' e1 e2 e3 e4 e5 FG U K1 K2
    refine hdone S toks acc c g h' tk' e1 e2 (fun q hq => e3 q (by simp [hq])) e4 e5 FG U K1 fun q hq => K2 q ?_
    rcases List.mem_cons.mp hq with rfl | hq
    · exact List.mem_cons_self
    · simp [hq]
end
theorem fr_up {h₀ g h : Heap} {L L' : Addr} {m m' : Str → Option Value} (FG : Fr h₀ L g m) (F : Fr g L' h m') : Fr h₀ L h m := by
  obtain ⟨oL, es, ep, hL, hLd, hLk, hLf⟩ := FG.ns
  exact ⟨⟨oL, es, ep, F.keep L oL hL, hLd, hLk, hLf⟩, fun b o e => F.keep b o (FG.keep b o e), FG.above⟩
theorem fr_lt {h₀ h : Heap} {L : Addr} {m : Str → Option Value} (F : Fr h₀ L h m) : @LT.lt Nat _ L h.objs.size := by
  obtain ⟨oL, es, ep, hL, _⟩ := F.ns
  exact Heap.lt_size hL
theorem kw12 : True := by
  k_with "call ref" => (k_here; (with_reducible show wpAny _ _ (call (Value.ref 595) _) _ _ _); k_dflt (refine' sp_call (sio_make _ _ _ _) ?k1 ?k2 ?k3 ?k4 ?k5 ?kK ?kd ?ku ?_; (case kK => exact rfl); (case k1 => k_asm); (case k2 => k_asm); (case k3 => k_asm); (case k4 => k_asm); (case k5 => k_asm); (case kd => ktr_room); (case ku => ktr_units)); refine And.intro ?_ (fun z9' => z9'.elim); k_dflt (intro r' nw' h' tk' F' N' P'; obtain ⟨ix', dx', t1', t2', t3', t4', t5', t6', hr9', l1, l2, hw9'⟩ := P'; subst hr9'; subst hw9'; (try k_lt l1); (try k_lt2 l2)))
  k_with "call type:collections.deque" => (k_here; k_dflt (refine' dq_N ?k1 ?k2 ?_; (case k1 => k_asm); (case k2 => k_asm); k_whole); intro l' h' F' N' l1; (try k_lt l1); (try k_sweep))
  k_with "call type:list cons nil" => (k_here; refine stop_intro ?_)
  trivial
theorem split_ok (w : World) (x : Str) (t : Tok) (hx : x.length ≤ 1000) (news : Led) (k : Nat) (hk1 : k ≤ 1500) (out : LRes) (hout : out ≠ .stuck) (ho : lexF k x.cps.toList = out) :
    SpB w 742 [.str x t, .bool true] news 40 400 (out = .raise) (fun r news' => ∃ S toks acc c, out = .ok toks ∧ TextsAre acc.toList toks ∧ r = .ref S ∧ (∀ q ∈ news, q.1 < S) ∧ news' = (S, lsO acc c) :: news) := by
  intro p loose mean mg mb dp un cn cs a ccd cl outer A₀ h₀ L m s Q E B F X N T hk hdp hun hret hrz
  refine wpAny_call ?_
  k_dflt (refine' code_defR ?k1 ?k2 ?k3 ?k4 ?k5 ?kA ?kF ?kK ?k6 ?k7 ?k8 ?k9 ?kB ?_ ?c2 ?c3 ?c4 ?c5; (case kA => exact rfl); (case kF => exact rfl); (case kK => assumption); (case k1 => k_asm); (case k2 => k_asm); (case k3 => k_asm); (case k4 => k_asm); (case k5 => k_asm); (case k6 => k_is); (case k7 => k_is); (case k8 => ktr_room); (case k9 => first | (ktr_unf; done) | exact BindsTo.of_eq rfl | exact binds_K (by k_in) rfl (by k_is) rfl rfl rfl); (case c5 => decide); (case kB => exact locs rfl); (case c2 => exact rfl); (case c3 => exact rfl); (case c4 => exact rfl); k_whole; intro g' L' h' FG' F' N' B' X' T'; (try dsimp only); (try k_fold))
  k_steps
  refine stop_elim ?_
  (rename News _ _ _ _ => N9)
  (rename Fr g' L' _ _ => F9)
  refine split_end (by decide +kernel) (.inr rfl) hx (by assumption) (by assumption) (by assumption) (by assumption) (by assumption) (by assumption) N9 B' F9 X' T' rfl (by ktr_room) (by ktr_units) out hout k hk1 ho ?_ ?_
  · intro S toks acc c g h1 tk1 e1 e2 e3 e4 e5 FG U K1 K2
    have FU := fr_up FG' FG
    refine hret _ _ _ _ (FU.of_stays K1 U) ?_ ⟨S, toks, acc, c, e1, e2, rfl, e3, rfl⟩
    intro q hq
    refine ⟨K2 q hq, ?_⟩
    rcases List.mem_cons.mp hq with rfl | hq
    · refine ⟨?_, e5⟩
      have := fr_lt (fr_up FG' F9)
      intro e
      rw [← (show S = L from e)] at this
      exact absurd (Nat.lt_of_lt_of_le this e4) (Nat.lt_irrefl _)
    · exact (N q hq).2
  · k_steps
    (rename RaisedK _ _ _ _ _ _ _ _ => R9)
    (rename Heap.UpToSlots _ _ => U9)
    exact hrz (by assumption) _ _ _ _ _ _ FG' U9 R9
/-- split without comments -/
theorem split_ok2 (w : World) (x : Str) (t : Tok) (hx : x.length ≤ 1000) (news : Led) (k : Nat) (hk1 : k ≤ 1500) (out : LRes) (hout : out ≠ .stuck) (ho : lexF k x.cps.toList = out) :
    SpB w 742 [.str x t] news 40 400 (out = .raise) (fun r news' => ∃ S toks acc c, out = .ok toks ∧ TextsAre acc.toList toks ∧ r = .ref S ∧ (∀ q ∈ news, q.1 < S) ∧ news' = (S, lsO acc c) :: news) := by
  intro p loose mean mg mb dp un cn cs a ccd cl outer A₀ h₀ L m s Q E B F X N T hk hdp hun hret hrz
  refine wpAny_call ?_
  k_dflt (refine' code_defR ?k1 ?k2 ?k3 ?k4 ?k5 ?kA ?kF ?kK ?k6 ?k7 ?k8 ?k9 ?kB ?_ ?c2 ?c3 ?c4 ?c5; (case kA => exact rfl); (case kF => exact rfl); (case kK => assumption); (case k1 => k_asm); (case k2 => k_asm); (case k3 => k_asm); (case k4 => k_asm); (case k5 => k_asm); (case k6 => k_is); (case k7 => k_is); (case k8 => ktr_room); (case k9 => first | (ktr_unf; done) | exact BindsTo.of_eq rfl | exact binds_K (by k_in) rfl (by k_is) rfl rfl rfl); (case c5 => decide); (case kB => exact locs rfl); (case c2 => exact rfl); (case c3 => exact rfl); (case c4 => exact rfl); k_whole; intro g' L' h' FG' F' N' B' X' T'; (try dsimp only); (try k_fold))
  k_steps
  refine stop_elim ?_
  (rename News _ _ _ _ => N9)
  (rename Fr g' L' _ _ => F9)
  refine split_end (by decide +kernel) (.inl rfl) hx (by assumption) (by assumption) (by assumption) (by assumption) (by assumption) (by assumption) N9 B' F9 X' T' rfl (by ktr_room) (by ktr_units) out hout k hk1 ho ?_ ?_
  · intro S toks acc c g h1 tk1 e1 e2 e3 e4 e5 FG U K1 K2
    have FU := fr_up FG' FG
    refine hret _ _ _ _ (FU.of_stays K1 U) ?_ ⟨S, toks, acc, c, e1, e2, rfl, e3, rfl⟩
    intro q hq
    refine ⟨K2 q hq, ?_⟩
    rcases List.mem_cons.mp hq with rfl | hq
    · refine ⟨?_, e5⟩
      have := fr_lt (fr_up FG' F9)
      intro e
      rw [← (show S = L from e)] at this
      exact absurd (Nat.lt_of_lt_of_le this e4) (Nat.lt_irrefl _)
    · exact (N q hq).2
  · k_steps
    (rename RaisedK _ _ _ _ _ _ _ _ => R9)
    (rename Heap.UpToSlots _ _ => U9)
    exact hrz (by assumption) _ _ _ _ _ _ FG' U9 R9


theorem kw13 : True := by
  k_with_none
  k_with "n ktr_enter" => (refine' code_def ?k1 ?k2 ?k3 ?k4 ?k5 ?kA ?kF ?kK ?k6 ?k7 ?k8 ?k9 ?kB ?_ ?c2 ?c3 ?c4 ?c5; (case kA => exact rfl); (case kF => exact rfl); (case kK => assumption); (case k1 => k_asm); (case k2 => k_asm); (case k3 => k_asm); (case k4 => k_asm); (case k5 => k_asm); (case k6 => k_is); (case k7 => k_is); (case k8 => ktr_room); (case k9 => first | (ktr_unf; done) | exact BindsTo.of_eq rfl | exact binds_K (by k_in) rfl (by k_is) rfl rfl rfl); (case c5 => decide); (case kB => exact locs rfl); (case c2 => exact rfl); (case c3 => exact rfl); (case c4 => exact rfl); k_whole; intro _ _ _ _ _ _ _ _ _; (try dsimp only); (try k_fold))
  k_with "n k_room" => ktr_room
  k_with "n k_units" => ktr_units
  k_with "n ktr_units" => ((try simp only [units_under_kw, units_in1, units_deeper, Around.mark_units, units_caller]); (try dsimp only [ktrTop]); first | exact lim0 hun | exact lim1 hun rfl | exact lim2 hun rfl | exact lim3 hun rfl | exact lim4 hun rfl | exact lim5 hun rfl | exact limA hun rfl | exact limB hun rfl | ((have hcL9 := cLine_is); omega))
  k_with "n ktr_room" => ((try simp only [depth_under_make, depth_under_kw, depth_in1, depth_deeper, depth_caller]); (try dsimp only [ktrTop]); first | exact lim0 hdp | exact lim1 hdp rfl | exact lim2 hdp rfl | exact lim3 hdp rfl | exact lim4 hdp rfl | exact lim5 hdp rfl | exact limA hdp rfl | exact limB hdp rfl | exact lim0 hdp' | exact lim1 hdp' rfl | exact lim2 hdp' rfl | exact lim3 hdp' rfl | exact lim4 hdp' rfl | exact lim5 hdp' rfl | omega)
  k_with "n k_mem" => assumption
  trivial
/-! the plain law: the lexer in one pass; pieces and words -/
/-- all tokens in one pass -/
noncomputable def lx : LSt → List Nat → Bool → List Nat → LRes
  | .sp, _, _, [] => .ok []
  | .sp, _, _, c :: r => if c = 32 then lx .sp [] false r else if c = 39 ∨ c = 34 then lx (.q c) [] false r else if plainC c then lx .a [c] false r else .stuck
  | .a, t, q, [] => if t = [] ∧ q = false then .stuck else .ok [t]
  | .a, t, q, c :: r => if c = 32 then (if t = [] ∧ q = false then .stuck else LRes.cons t (lx .sp [] false r)) else if c = 39 ∨ c = 34 then lx (.q c) t q r else if plainC c then lx .a (t ++ [c]) q r else .stuck
  | .q _, _, _, [] => .raise
  | .q k, t, _, c :: r => if c = k then lx .a t true r else if c = 10 then .stuck else if c = 92 ∧ k = 34 then lx .esc t true r else lx (.q k) (t ++ [c]) true r
  | .esc, _, _, [] => .stuck
  | .esc, t, q, c :: r => if c = 10 then .stuck else if c = 92 ∨ c = 34 then lx (.q 34) (t ++ [c]) q r else lx (.q 34) (t ++ [92, c]) q r
noncomputable def RdLx (n : Nat) (x : LRes) : RRes → Prop
  | .stuck => x = .stuck
  | .raise => x = .raise
  | .done none _ _ => x = .ok []
  | .done (some y) true _ => x = .ok [y]
  | .done (some y) false r => x = LRes.cons y (lx .sp [] false r) ∧ r.length < n
theorem RdLx.more {n m : Nat} {x : LRes} {r : RRes} (h : RdLx n x r) (hn : n ≤ m) : RdLx m x r := by
  match r, h with
  | .stuck, h => exact h
  | .raise, h => exact h
  | .done none _ _, h => exact h
  | .done (some y) true _, h => exact h
  | .done (some y) false r, h => exact ⟨h.1, Nat.lt_of_lt_of_le h.2 hn⟩
theorem rd_lx : ∀ (cs : List Nat) (st : LSt) (t : List Nat) (q : Bool), RdLx cs.length (lx st t q cs) (rd st t q cs) := by
  intro cs
  induction cs with
  | nil =>
    intro st t q
    cases st <;> simp only [lx, rd]
    · rfl
    · split <;> rfl
    · rfl
    · rfl
  | cons c r ih =>
    intro st t q
    have ih' := fun st t q => (ih st t q).more (Nat.le_succ r.length)
    cases st <;> simp only [lx, rd] <;> (repeat' split) <;> first | exact ih' _ _ _ | exact ⟨rfl, Nat.lt_succ_self _⟩ | rfl
theorem lexF_lx : ∀ (k : Nat) (cs : List Nat), cs.length < k → lexF k cs = lx .sp [] false cs := by
  intro k
  induction k with
  | zero => intro cs h; exact absurd h (Nat.not_lt_zero _)
  | succ k ih =>
    intro cs h
    have hr := rd_lx cs .sp [] false
    rw [lexF]
    cases e : rd .sp [] false cs with
    | stuck => rw [e] at hr; exact (show lx .sp [] false cs = .stuck from hr).symm
    | raise => rw [e] at hr; exact (show lx .sp [] false cs = .raise from hr).symm
    | done o eof rem =>
      rw [e] at hr
      cases o with
      | none => exact (show lx .sp [] false cs = .ok [] from hr).symm
      | some y =>
        cases eof with
        | true => exact (show lx .sp [] false cs = .ok [y] from hr).symm
        | false =>
          have hr' : lx .sp [] false cs = LRes.cons y (lx .sp [] false rem) ∧ rem.length < cs.length := hr
          show LRes.cons y (lexF k rem) = _
          rw [ih rem (by omega), hr'.1]
inductive PK where
  | bare
  | gap
  | text
structure Pc where
  raw : List Nat
  told : List Nat
  kind : PK
/-- a text's signs between its marks, told -/
noncomputable def TextPc (raw told : List Nat) : Prop :=
  ∃ k body, (k = 39 ∨ k = 34) ∧ raw = k :: (body ++ [k]) ∧ (∀ c ∈ body, c ≠ k ∧ c ≠ 10) ∧ ∀ t q rest, lx (.q k) t q (body ++ k :: rest) = lx .a (t ++ told) true rest
noncomputable def Pc.Good (p : Pc) : Prop := match p.kind with
  | .bare => p.raw = p.told ∧ p.raw ≠ [] ∧ ∀ c ∈ p.raw, plainC c = true
  | .gap => p.raw = [32] ∧ p.told = []
  | .text => TextPc p.raw p.told
noncomputable def rawOf (ps : List Pc) : List Nat := ps.flatMap (·.raw)
/-- the words as the law reckons them: those done, the one begun, the pieces, the room -/
noncomputable def wd : List (List Nat) → Option (List Nat) → List Pc → Nat → Option (List (List Nat))
  | ws, cur, [], _ => some (ws ++ cur.toList)
  | ws, cur, p :: r, room => if room = 0 then some (ws ++ cur.toList) else match p.kind with
    | .gap => wd (ws ++ cur.toList) none r (room - p.raw.length)
    | .text => if room < p.raw.length then none else wd ws (some (cur.getD [] ++ p.told)) r (room - p.raw.length)
    | .bare => wd ws (some (cur.getD [] ++ p.told.take room)) r (room - p.raw.length)
theorem wd_pre : ∀ (ps : List Pc) (ws : List (List Nat)) (cur : Option (List Nat)) (room : Nat), wd ws cur ps room = (wd [] cur ps room).map (ws ++ ·) := by
  intro ps
  induction ps with
  | nil => intro ws cur room; simp [wd]
  | cons p r ih =>
    intro ws cur room
    simp only [wd]
    split
    · simp
    · split
      · rw [ih, ih ([] ++ cur.toList)]
        cases wd [] none r (room - p.raw.length) <;> simp
      · split
        · rfl
        · exact ih _ _ _
      · exact ih _ _ _
noncomputable def lxC (q : Bool) : Option (List Nat) → List Nat → LRes
  | none => lx .sp [] false
  | some t => lx .a t q
noncomputable abbrev TRt : List Nat := [91, 116, 114, 117, 110, 99, 97, 116, 101, 100, 93, 46, 46, 46]
noncomputable abbrev TR : List Nat := 32 :: TRt
theorem lx_bare : ∀ (l : List Nat) (t : List Nat) (q : Bool) (rest : List Nat), (∀ c ∈ l, plainC c = true) → lx .a t q (l ++ rest) = lx .a (t ++ l) q rest := by
  intro l
  induction l with
  | nil => intro t q rest _; simp
  | cons c l ih =>
    intro t q rest h
    have hc := h c List.mem_cons_self
    have h1 : c ≠ 32 := by rintro rfl; exact absurd hc (by decide)
    have h2 : ¬ (c = 39 ∨ c = 34) := by rintro (rfl | rfl) <;> exact absurd hc (by decide)
    rw [List.cons_append, lx, if_neg h1, if_neg h2, if_pos hc, ih _ _ _ fun d hd => h d (List.mem_cons_of_mem _ hd)]
    simp
theorem lxC_bare {l : List Nat} {q : Bool} {cur : Option (List Nat)} {rest : List Nat} (h : ∀ c ∈ l, plainC c = true) (hl : l ≠ []) : ∃ q', lxC q cur (l ++ rest) = lx .a (cur.getD [] ++ l) q' rest := by
  cases cur with
  | some t => exact ⟨q, lx_bare l t q rest h⟩
  | none =>
    cases l with
    | nil => exact absurd rfl hl
    | cons c l =>
      have hc := h c List.mem_cons_self
      have h1 : c ≠ 32 := by rintro rfl; exact absurd hc (by decide)
      have h2 : ¬ (c = 39 ∨ c = 34) := by rintro (rfl | rfl) <;> exact absurd hc (by decide)
      refine ⟨false, ?_⟩
      show lx .sp [] false _ = _
      rw [List.cons_append, lx, if_neg h1, if_neg h2, if_pos hc, lx_bare l _ _ _ fun d hd => h d (List.mem_cons_of_mem _ hd)]
      rfl
/-- a mark opens a text -/
theorem lxC_open {k : Nat} (hk : k = 39 ∨ k = 34) (q : Bool) (cur : Option (List Nat)) (rest : List Nat) : ∃ q', lxC q cur (k :: rest) = lx (.q k) (cur.getD []) q' rest := by
  have h1 : k ≠ 32 := by omega
  cases cur with
  | none =>
    refine ⟨false, ?_⟩
    show lx .sp [] false _ = _
    rw [lx, if_neg h1, if_pos hk]
    rfl
  | some t =>
    refine ⟨q, ?_⟩
    show lx .a t q _ = _
    rw [lx, if_neg h1, if_pos hk]
    rfl
theorem tr_raise (k : Nat) (hk : k = 39 ∨ k = 34) (t : List Nat) (q : Bool) : lx (.q k) t q TR = .raise ∧ (k = 34 → lx .esc t q TR = .raise) := by
  rcases hk with rfl | rfl
  · exact ⟨by simp [lx], by simp⟩
  · exact ⟨by simp [lx], by simp [lx]⟩
/-- a text that is cut -/
theorem cut_raise (k : Nat) (hk : k = 39 ∨ k = 34) : ∀ (l : List Nat) (t : List Nat) (q : Bool), (∀ c ∈ l, c ≠ k ∧ c ≠ 10) → lx (.q k) t q (l ++ TR) = .raise ∧ (k = 34 → lx .esc t q (l ++ TR) = .raise) := by
  intro l
  induction l with
  | nil => intro t q _; exact tr_raise k hk t q
  | cons c l ih =>
    intro t q h
    obtain ⟨h1, h2⟩ := h c List.mem_cons_self
    have ih' := fun t q => ih t q fun d hd => h d (List.mem_cons_of_mem _ hd)
    refine ⟨?_, ?_⟩
    · rw [List.cons_append, lx, if_neg h1, if_neg h2]
      split
      · rename_i e; exact (ih' _ _).2 e.2
      · exact (ih' _ _).1
    · intro e
      subst e
      rw [List.cons_append, lx, if_neg h2]
      split
      · exact (ih' _ _).1
      · exact (ih' _ _).1
noncomputable def toL (extra : List (List Nat)) : Option (List (List Nat)) → LRes
  | none => .raise
  | some us => .ok (us ++ extra)
/-- the tail behind the pieces -/
noncomputable def TailOk (n room : Nat) (tail : List Nat) (extra : List (List Nat)) : Prop := (tail = [] ∧ extra = [] ∧ n ≤ room) ∨ (tail = TR ∧ extra = [TRt] ∧ room ≤ n)
theorem end_lx {n room : Nat} {tail : List Nat} {extra : List (List Nat)} (h : TailOk n room tail extra) (cur : Option (List Nat)) (q : Bool) (hq : ∀ t, cur = some t → t ≠ [] ∨ q = true) : lxC q cur tail = .ok (cur.toList ++ extra) := by
  have hq' : ∀ t, cur = some t → ¬ (t = [] ∧ q = false) := fun t e x => by rcases hq t e with h | h; exact h x.1; rw [x.2] at h; cases h
  rcases h with ⟨rfl, rfl, _⟩ | ⟨rfl, rfl, _⟩
  · cases cur with
    | none => rfl
    | some t => show lx .a t q [] = _; rw [lx, if_neg (hq' t rfl)]; rfl
  · have e : lx .sp [] false TRt = .ok [TRt] := by simp [lx, plainC]
    cases cur with
    | none => show lx .sp [] false (32 :: TRt) = _; rw [lx, if_pos rfl, e]; rfl
    | some t => show lx .a t q (32 :: TRt) = _; rw [lx, if_pos rfl, if_neg (hq' t rfl), e]; rfl
theorem take_raw {p : Pc} {r : List Pc} {room : Nat} : (rawOf (p :: r)).take room = p.raw.take room ++ (rawOf r).take (room - p.raw.length) := by
  show (p.raw ++ rawOf r).take room = _
  exact List.take_append
/-- what the lexer gives is what the law reckons -/
theorem wd_lx : ∀ (ps : List Pc) (room : Nat) (tail : List Nat) (extra : List (List Nat)) (cur : Option (List Nat)) (q : Bool), (∀ p ∈ ps, p.Good) → TailOk (rawOf ps).length room tail extra → (∀ t, cur = some t → t ≠ [] ∨ q = true) →
    lxC q cur ((rawOf ps).take room ++ tail) = toL extra (wd [] cur ps room) := by
  intro ps
  induction ps with
  | nil =>
    intro room tail extra cur q _ ht hq
    rw [show (rawOf []).take room ++ tail = tail by simp [rawOf], end_lx ht cur q hq]
    simp [wd, toL]
  | cons p r ih =>
    intro room tail extra cur q hg ht hq
    have hlen : (rawOf (p :: r)).length = p.raw.length + (rawOf r).length := by simp [rawOf]
    have hp := hg p List.mem_cons_self
    have ih' := fun room' tail extra cur q => ih room' tail extra cur q fun d hd => hg d (List.mem_cons_of_mem _ hd)
    by_cases h0 : room = 0
    · subst h0
      rw [show (rawOf (p :: r)).take 0 ++ tail = tail by simp, end_lx ht cur q hq]
      simp [wd, toL]
    have ht' : p.raw.length ≤ room → TailOk (rawOf r).length (room - p.raw.length) tail extra := fun hle => by
      rcases ht with ⟨a, b, c⟩ | ⟨a, b, c⟩
      · exact .inl ⟨a, b, by omega⟩
      · exact .inr ⟨a, b, by omega⟩
    have ht2 : room < p.raw.length → tail = TR ∧ TailOk (rawOf r).length 0 tail extra := fun hlt => by
      rcases ht with ⟨a, b, c⟩ | ⟨a, b, c⟩
      · omega
      · exact ⟨a, .inr ⟨a, b, Nat.zero_le _⟩⟩
    rw [take_raw, List.append_assoc]
    simp only [wd, if_neg h0]
    unfold Pc.Good at hp
    cases hk : p.kind with
    | gap =>
      rw [hk] at hp
      obtain ⟨hraw, _⟩ := (show p.raw = [32] ∧ p.told = [] from hp)
      have h1 : p.raw.length = 1 := by rw [hraw]; rfl
      have e1 : p.raw.take room = [32] := by rw [hraw]; cases room with | zero => exact absurd rfl h0 | succ n => simp
      rw [e1]
      dsimp only
      rw [wd_pre, List.nil_append]
      have IH := ih' (room - p.raw.length) tail extra none false (ht' (by omega)) (by simp)
      cases cur with
      | none =>
        show lx .sp [] false (32 :: _) = _
        rw [lx, if_pos rfl]
        refine Eq.trans IH ?_
        cases wd [] none r (room - p.raw.length) <;> simp [toL]
      | some t =>
        show lx .a t q (32 :: _) = _
        have : ¬ (t = [] ∧ q = false) := fun x => by rcases hq t rfl with h | h; exact h x.1; rw [x.2] at h; cases h
        rw [lx, if_pos rfl, if_neg this]
        refine Eq.trans (congrArg (LRes.cons t) IH) ?_
        cases wd [] none r (room - p.raw.length) <;> simp [toL, LRes.cons]
    | bare =>
      rw [hk] at hp
      obtain ⟨hraw, hne, hpl⟩ := (show p.raw = p.told ∧ p.raw ≠ [] ∧ ∀ c ∈ p.raw, plainC c = true from hp)
      dsimp only
      have hpl' : ∀ c ∈ p.raw.take room, plainC c = true := fun c hc => hpl c (List.mem_of_mem_take hc)
      have hne' : p.raw.take room ≠ [] := by
        intro e
        rcases List.take_eq_nil_iff.mp e with e | e
        · exact h0 e
        · exact hne e
      obtain ⟨q', e1⟩ := lxC_bare (q := q) (cur := cur) (rest := (rawOf r).take (room - p.raw.length) ++ tail) hpl' hne'
      rw [e1, ← hraw]
      have hT : TailOk (rawOf r).length (room - p.raw.length) tail extra := by
        rcases Nat.lt_or_ge room p.raw.length with hlt | hge
        · rw [Nat.sub_eq_zero_of_le (Nat.le_of_lt hlt)]; exact (ht2 hlt).2
        · exact ht' hge
      exact ih' (room - p.raw.length) tail extra (some (cur.getD [] ++ p.raw.take room)) q' hT fun t e => .inl (by cases e; simp [hne'])
    | text =>
      rw [hk] at hp
      obtain ⟨k, body, hkk, hraw, hbody, hlx⟩ := (show TextPc p.raw p.told from hp)
      dsimp only
      by_cases hlt : room < p.raw.length
      · rw [if_pos hlt]
        obtain ⟨e1, _⟩ := ht2 hlt
        have e2 : p.raw.take room = k :: body.take (room - 1) := by
          rw [hraw] at hlt ⊢
          cases room with
          | zero => exact absurd rfl h0
          | succ n =>
            rw [List.take_succ_cons, List.take_append_of_le_length]
            · rfl
            · simp at hlt; omega
        have e3 : (rawOf r).take (room - p.raw.length) = [] := by rw [Nat.sub_eq_zero_of_le (Nat.le_of_lt hlt)]; rfl
        rw [e1, e2, e3, List.nil_append, List.cons_append]
        obtain ⟨q', e4⟩ := lxC_open hkk q cur (body.take (room - 1) ++ TR)
        rw [e4]
        exact (cut_raise k hkk _ _ _ fun c hc => hbody c (List.mem_of_mem_take hc)).1
      · rw [if_neg hlt]
        have hge : p.raw.length ≤ room := by omega
        rw [List.take_of_length_le hge, hraw, List.cons_append]
        obtain ⟨q', e4⟩ := lxC_open hkk q cur (body ++ [k] ++ ((rawOf r).take (room - (k :: (body ++ [k])).length) ++ tail))
        rw [e4, List.append_assoc]
        rw [show body ++ ([k] ++ ((rawOf r).take (room - (k :: (body ++ [k])).length) ++ tail)) = body ++ k :: ((rawOf r).take (room - (k :: (body ++ [k])).length) ++ tail) from rfl, hlx, ← hraw]
        exact ih' (room - p.raw.length) tail extra (some (cur.getD [] ++ p.told)) true (ht' hge) fun t e => .inr rfl


/-! the pieces of a datum -/
noncomputable abbrev sg (x : Str) : List Nat := x.cps.toList
noncomputable def esc (c : Nat) : List Nat := if c = 92 then [92, 92] else if c = 10 then [92, 110] else if c = 127 then [92, 120, 55, 102] else [c]
noncomputable def tolC (c : Nat) : List Nat := if c = 92 then [92] else esc c
noncomputable def markOf (x : List Nat) : Nat := if 39 ∈ x then 34 else 39
noncomputable def toldOf (x : List Nat) : List Nat := if 39 ∈ x then x.flatMap tolC else x.flatMap esc
noncomputable def textPc (x : List Nat) : Pc := ⟨markOf x :: (x.flatMap esc ++ [markOf x]), toldOf x, .text⟩
noncomputable abbrev bareP (x : List Nat) : Pc := ⟨x, x, .bare⟩
noncomputable abbrev gapP : Pc := ⟨[32], [], .gap⟩
noncomputable abbrev commaP : List Pc := [bareP [44], gapP]
noncomputable abbrev colonP : List Pc := [bareP [58], gapP]
noncomputable def GoodC (c : Nat) : Prop := c = 10 ∨ (32 ≤ c ∧ c ≤ 127)
noncomputable def GoodS (x : List Nat) : Prop := (∀ c ∈ x, GoodC c) ∧ ¬ (39 ∈ x ∧ 34 ∈ x)
noncomputable def stepP (acc p : List Pc) : List Pc := (if acc = [] then [] else acc ++ commaP) ++ p
noncomputable def glue (ps : List (List Pc)) : List Pc := ps.foldl stepP []
mutual
noncomputable def pcs : PyData → List Pc
  | .none => [bareP (sg "None")]
  | .bool b => [bareP (sg (if b then "True" else "False"))]
  | .int i => [bareP (sg (toString i))]
  | .str x => [textPc (sg x)]
  | .list xs => bareP [91] :: (glue (pcsL xs) ++ [bareP [93]])
  | .tuple xs => bareP [40] :: ((glue (pcsL xs) ++ if xs.length = 1 then [bareP [44]] else []) ++ [bareP [41]])
  | .dict kvs => bareP [123] :: (glue (pcsK kvs) ++ [bareP [125]])
noncomputable def pcsL : List PyData → List (List Pc)
  | [] => []
  | x :: r => pcs x :: pcsL r
noncomputable def pcsK : List (PyData × PyData) → List (List Pc)
  | [] => []
  | (k, v) :: r => (pcs k ++ colonP ++ pcs v) :: pcsK r
end
mutual
noncomputable def GoodD : PyData → Prop
  | .none => True
  | .bool _ => True
  | .int i => i.natAbs.log2 < 1920
  | .str x => GoodS (sg x)
  | .list xs => GoodL xs
  | .tuple xs => GoodL xs
  | .dict kvs => GoodK kvs
noncomputable def GoodL : List PyData → Prop
  | [] => True
  | x :: r => GoodD x ∧ GoodL r
noncomputable def GoodK : List (PyData × PyData) → Prop
  | [] => True
  | (k, v) :: r => GoodD k ∧ GoodD v ∧ GoodK r
end
mutual
theorem good_showable : ∀ d : PyData, GoodD d → d.showable = true
  | .none, _ => by simp only [PyData.showable]
  | .bool _, _ => by simp only [PyData.showable]
  | .int i, h => by simp only [PyData.showable]; exact decide_eq_true (by simpa only [GoodD] using h)
  | .str _, _ => by simp only [PyData.showable]
  | .list xs, h => by simp only [PyData.showable]; exact good_showableL xs (by simpa only [GoodD] using h)
  | .tuple xs, h => by simp only [PyData.showable]; exact good_showableL xs (by simpa only [GoodD] using h)
  | .dict kvs, h => by simp only [PyData.showable]; exact good_showableK kvs (by simpa only [GoodD] using h)
theorem good_showableL : ∀ xs : List PyData, GoodL xs → PyData.showableAll xs = true
  | [], _ => by simp only [PyData.showableAll]
  | x :: r, h => by
    have h : GoodD x ∧ GoodL r := by simpa only [GoodL] using h
    simp only [PyData.showableAll, good_showable x h.1, good_showableL r h.2, Bool.and_self]
theorem good_showableK : ∀ kvs : List (PyData × PyData), GoodK kvs → PyData.showableKv kvs = true
  | [], _ => by simp only [PyData.showableKv]
  | (k, v) :: r, h => by
    have h : GoodD k ∧ GoodD v ∧ GoodK r := by simpa only [GoodK] using h
    simp only [PyData.showableKv, good_showable k h.1, good_showable v h.2.1, good_showableK r h.2.2, Bool.and_self]
end
theorem printable : ∀ c : Nat, c < 127 → 32 ≤ c → Unicode.isPrintable c = true := by decide +kernel
theorem hex7f : Builtin.Str.reprChar 39 127 = [92, 120, 55, 102] ∧ Builtin.Str.reprChar 34 127 = [92, 120, 55, 102] := by decide +kernel
theorem reprChar_good {q c : Nat} (hq : q = 39 ∨ q = 34) (hc : GoodC c) (hne : c ≠ q) : Builtin.Str.reprChar q c = esc c := by
  unfold esc
  by_cases h92 : c = 92
  · subst h92
    rcases hq with rfl | rfl <;> rfl
  by_cases h10 : c = 10
  · subst h10
    rcases hq with rfl | rfl <;> rfl
  by_cases h127 : c = 127
  · subst h127
    rcases hq with rfl | rfl
    · exact hex7f.1
    · exact hex7f.2
  rw [if_neg h92, if_neg h10, if_neg h127]
  have hr : 32 ≤ c ∧ c < 127 := by unfold GoodC at hc; omega
  have hp := printable c hr.2 hr.1
  have e1 : (c == q || c == 92) = false := by simp [hne, h92]
  have e2 : (c == 10) = false := by simp [h10]
  have e3 : (c == 13) = false := by simp; omega
  have e4 : (c == 9) = false := by simp; omega
  simp only [Builtin.Str.reprChar, e1, e2, e3, e4, hp, Bool.false_eq_true, if_false, if_true]
theorem foldl_esc (q : Nat) : ∀ (l : List Nat) (acc : Array Nat), (∀ c ∈ l, Builtin.Str.reprChar q c = esc c) → (l.foldl (fun out c => out ++ (Builtin.Str.reprChar q c).toArray) acc).toList = acc.toList ++ l.flatMap esc
  | [], acc, _ => by simp
  | c :: r, acc, h => by
    rw [List.foldl_cons, foldl_esc q r _ fun d hd => h d (List.mem_cons_of_mem _ hd), h c List.mem_cons_self]
    simp
theorem mark_is {x : Str} (h : GoodS (sg x)) : reprQuote x = markOf (sg x) := by
  unfold reprQuote markOf sg
  have h2 := h.2
  by_cases h39 : 39 ∈ x.cps.toList
  · have : ¬ 34 ∈ x.cps.toList := fun e => h2 ⟨h39, e⟩
    rw [if_pos h39, if_pos]
    simp only [Array.contains_eq_mem]
    simp at h39 this ⊢
    exact ⟨h39, this⟩
  · rw [if_neg h39, if_neg]
    simp at h39 ⊢
    intro e
    exact absurd e h39
theorem mark_two (x : List Nat) : markOf x = 39 ∨ markOf x = 34 := by unfold markOf; split <;> simp
theorem mark_not {x : List Nat} (h : GoodS x) : ∀ c ∈ x, c ≠ markOf x := by
  intro c hc e
  unfold markOf at e
  split at e
  · rename_i h39; subst e; exact h.2 ⟨h39, hc⟩
  · rename_i h39; subst e; exact h39 hc
theorem text_raw {x : Str} (h : GoodS (sg x)) : sg (reprText x) = (textPc (sg x)).raw := by
  have hq := mark_is h
  unfold reprText textPc
  show ((x.cps.foldl (fun out c => out ++ (Builtin.Str.reprChar (reprQuote x) c).toArray) #[reprQuote x]).push (reprQuote x)).toList = _
  rw [Array.toList_push, ← Array.foldl_toList, hq, foldl_esc]
  · rfl
  · intro c hc
    exact reprChar_good (mark_two _) (h.1 c hc) (mark_not h c hc)
theorem esc_ne {c k : Nat} (hk : k = 39 ∨ k = 34) (hc : c ≠ k) : ∀ d ∈ esc c, d ≠ k ∧ d ≠ 10 := by
  have D : ∀ d ∈ [92, 110, 120, 55, 102], d ≠ 39 ∧ d ≠ 34 ∧ d ≠ 10 := by decide
  intro d hd
  have fin : d ∈ [92, 110, 120, 55, 102] → d ≠ k ∧ d ≠ 10 := fun h => ⟨by rcases hk with rfl | rfl; exact (D d h).1; exact (D d h).2.1, (D d h).2.2⟩
  unfold esc at hd
  split at hd
  · exact fin ((by decide : ∀ x ∈ [92, 92], x ∈ [92, 110, 120, 55, 102]) d hd)
  · split at hd
    · exact fin ((by decide : ∀ x ∈ [92, 110], x ∈ [92, 110, 120, 55, 102]) d hd)
    · rename_i h10
      split at hd
      · exact fin ((by decide : ∀ x ∈ [92, 120, 55, 102], x ∈ [92, 110, 120, 55, 102]) d hd)
      · rw [List.mem_singleton.mp hd]; exact ⟨hc, h10⟩
/-- within single marks a text is told as written -/
theorem lx_single : ∀ (l : List Nat) (t : List Nat) (q : Bool) (rest : List Nat), (∀ c ∈ l, c ≠ 39 ∧ c ≠ 10) → lx (.q 39) t q (l ++ 39 :: rest) = lx .a (t ++ l) true rest := by
  intro l
  induction l with
  | nil => intro t q rest _; simp [lx]
  | cons c l ih =>
    intro t q rest h
    obtain ⟨h1, h2⟩ := h c List.mem_cons_self
    rw [List.cons_append, lx, if_neg h1, if_neg h2, if_neg (by simp), ih _ _ _ fun d hd => h d (List.mem_cons_of_mem _ hd)]
    simp
theorem lx_double : ∀ (x : List Nat) (t : List Nat) (q : Bool) (rest : List Nat), 34 ∉ x → lx (.q 34) t q (x.flatMap esc ++ 34 :: rest) = lx .a (t ++ x.flatMap tolC) true rest := by
  intro x
  induction x with
  | nil => intro t q rest _; simp [lx]
  | cons c x ih =>
    intro t q rest h
    have h1 : c ≠ 34 := fun e => h (e ▸ List.mem_cons_self)
    have ih' := fun t q => ih t q rest fun e => h (List.mem_cons_of_mem _ e)
    rw [List.flatMap_cons, List.flatMap_cons, List.append_assoc]
    by_cases h92 : c = 92
    · subst h92
      show lx (.q 34) t q (92 :: 92 :: (x.flatMap esc ++ 34 :: rest)) = lx .a (t ++ ([92] ++ x.flatMap tolC)) true rest
      rw [lx, if_neg (by decide), if_neg (by decide), if_pos ⟨rfl, rfl⟩, lx, if_neg (by decide), if_pos (.inl rfl), ih', List.append_assoc]
    by_cases h10 : c = 10
    · subst h10
      show lx (.q 34) t q (92 :: 110 :: (x.flatMap esc ++ 34 :: rest)) = lx .a (t ++ ([92, 110] ++ x.flatMap tolC)) true rest
      rw [lx, if_neg (by decide), if_neg (by decide), if_pos ⟨rfl, rfl⟩, lx, if_neg (by decide), if_neg (by decide), ih', List.append_assoc]
    by_cases h127 : c = 127
    · subst h127
      show lx (.q 34) t q (92 :: 120 :: 55 :: 102 :: (x.flatMap esc ++ 34 :: rest)) = lx .a (t ++ ([92, 120, 55, 102] ++ x.flatMap tolC)) true rest
      rw [lx, if_neg (by decide), if_neg (by decide), if_pos ⟨rfl, rfl⟩, lx, if_neg (by decide), if_neg (by decide)]
      rw [lx, if_neg (by decide), if_neg (by decide), if_neg (by decide)]
      rw [lx, if_neg (by decide), if_neg (by decide), if_neg (by decide), ih']
      simp
    have e1 : esc c = [c] := by unfold esc; rw [if_neg h92, if_neg h10, if_neg h127]
    have e2 : tolC c = [c] := by unfold tolC; rw [if_neg h92, e1]
    rw [e1, e2]
    show lx (.q 34) t q (c :: (x.flatMap esc ++ 34 :: rest)) = lx .a (t ++ ([c] ++ x.flatMap tolC)) true rest
    rw [lx, if_neg h1, if_neg h10, if_neg (fun e => h92 e.1), ih', List.append_assoc]
theorem text_good {x : List Nat} (h : GoodS x) : (textPc x).Good := by
  show TextPc _ _
  refine ⟨markOf x, x.flatMap esc, mark_two x, rfl, ?_, ?_⟩
  · intro d hd
    obtain ⟨c, hc, hd⟩ := List.mem_flatMap.mp hd
    exact esc_ne (mark_two x) (mark_not h c hc) d hd
  · intro t q rest
    by_cases h39 : 39 ∈ x
    · have e1 : markOf x = 34 := by unfold markOf; rw [if_pos h39]
      rw [e1]
      show _ = lx .a (t ++ toldOf x) true rest
      unfold toldOf
      rw [if_pos h39]
      exact lx_double x t q rest fun e => h.2 ⟨h39, e⟩
    · have e1 : markOf x = 39 := by unfold markOf; rw [if_neg h39]
      rw [e1]
      show _ = lx .a (t ++ toldOf x) true rest
      unfold toldOf
      rw [if_neg h39]
      refine lx_single _ t q rest fun d hd => ?_
      obtain ⟨c, hc, hd⟩ := List.mem_flatMap.mp hd
      exact esc_ne (.inl rfl) (fun e => h39 (e ▸ hc)) d hd
theorem dig_plain {c : Nat} (h : 48 ≤ c ∧ c ≤ 57) : plainC c = true := by
  have n : ∀ k, (Nat.ble 48 k && Nat.ble k 57) = false → c ≠ k := fun k hk e => by
    subst e
    rw [Nat.ble_eq_true_of_le h.1, Nat.ble_eq_true_of_le h.2] at hk
    cases hk
  exact plain_is ⟨n 32 rfl, n 9 rfl, n 13 rfl, n 10 rfl⟩ (not_or.mpr ⟨n 39 rfl, n 34 rfl⟩) ⟨n 35 rfl, n 92 rfl, n 10 rfl⟩
theorem digits_plain (m : Nat) : ∀ c ∈ (Nat.toDigits 10 m).map Char.toNat, plainC c = true := by
  intro c hc
  obtain ⟨ch, hch, e⟩ := List.mem_map.mp hc
  have r := digit_range (Nat.isDigit_of_mem_toDigits (by decide) (by decide) hch)
  rw [← e]
  exact dig_plain r
theorem digits_ne (m : Nat) : (Nat.toDigits 10 m).map Char.toNat ≠ [] := by
  intro e
  have h := tDigits_len_ge 10 m
  rw [List.map_eq_nil_iff.mp e] at h
  exact absurd h (by decide)
theorem int_good (i : Int) : (bareP (sg (toString i))).Good := by
  refine ⟨rfl, ?_⟩
  show sg (Str.ofString (toString i)) ≠ [] ∧ ∀ c ∈ sg (Str.ofString (toString i)), plainC c = true
  match i with
  | .ofNat m =>
    rw [show sg (Str.ofString (toString (Int.ofNat m))) = _ from KIN.signs_num m]
    exact ⟨digits_ne m, digits_plain m⟩
  | .negSucc m =>
    have e : sg (Str.ofString (toString (Int.negSucc m))) = 45 :: (Nat.toDigits 10 (m + 1)).map Char.toNat := by
      unfold sg
      rw [signs_ofString]
      show ("-" ++ Nat.repr (m + 1)).toList.map Char.toNat = _
      rw [String.toList_append, Nat.toList_repr]
      rfl
    rw [e]
    refine ⟨by simp, fun c hc => ?_⟩
    rcases List.mem_cons.mp hc with rfl | hc
    · decide
    · exact digits_plain _ c hc


/-! the pieces' signs are the text that repr writes; every piece is good -/
theorem raw_app (a b : List Pc) : rawOf (a ++ b) = rawOf a ++ rawOf b := by simp [rawOf]
theorem sg_app (a b : Str) : sg (a ++ b) = sg a ++ sg b := by simp [sg, Str.cps_append]
mutual
theorem pcs_ne : ∀ d : PyData, pcs d ≠ []
  | .none => by simp [pcs]
  | .bool _ => by simp [pcs]
  | .int _ => by simp [pcs]
  | .str _ => by simp [pcs]
  | .list _ => by simp [pcs]
  | .tuple _ => by simp [pcs]
  | .dict _ => by simp [pcs]
theorem pcsL_ne : ∀ xs : List PyData, ∀ p ∈ pcsL xs, p ≠ []
  | [], p, h => by simp [pcsL] at h
  | x :: r, p, h => by
    simp only [pcsL, List.mem_cons] at h
    rcases h with rfl | h
    · exact pcs_ne x
    · exact pcsL_ne r p h
end
theorem pcsK_ne : ∀ xs : List (PyData × PyData), ∀ p ∈ pcsK xs, p ≠ []
  | [], p, h => by simp [pcsK] at h
  | (k, v) :: r, p, h => by
    simp only [pcsK, List.mem_cons] at h
    rcases h with rfl | h
    · simp [pcs_ne]
    · exact pcsK_ne r p h
noncomputable abbrev CS : List Nat := [44, 32]
/-- joined by ", " -/
noncomputable def joinN : List (List Nat) → List Nat
  | [] => []
  | [x] => x
  | x :: r => x ++ CS ++ joinN r
theorem joinN_cons {x : List Nat} {r : List (List Nat)} (h : r ≠ []) : joinN (x :: r) = x ++ CS ++ joinN r := by
  cases r with
  | nil => exact absurd rfl h
  | cons y r => rfl
theorem stepP_ne {acc p : List Pc} (h : p ≠ []) : stepP acc p ≠ [] := by simp [stepP, h]
theorem raw_foldl : ∀ (ps : List (List Pc)) (acc : List Pc), acc ≠ [] → (∀ p ∈ ps, p ≠ []) → rawOf (ps.foldl stepP acc) = joinN (rawOf acc :: ps.map rawOf) := by
  intro ps
  induction ps with
  | nil => intro acc _ _; rfl
  | cons p r ih =>
    intro acc ha hp
    rw [List.foldl_cons, ih _ (stepP_ne (hp p List.mem_cons_self)) fun q hq => hp q (List.mem_cons_of_mem _ hq)]
    have e : rawOf (stepP acc p) = rawOf acc ++ CS ++ rawOf p := by
      unfold stepP
      rw [if_neg ha, raw_app, raw_app]
      rfl
    rw [e, List.map_cons, joinN_cons (x := rawOf acc) (by simp)]
    cases r with
    | nil => simp [joinN]
    | cons y r => simp [joinN]
theorem raw_glue (ps : List (List Pc)) (h : ∀ p ∈ ps, p ≠ []) : rawOf (glue ps) = joinN (ps.map rawOf) := by
  cases ps with
  | nil => rfl
  | cons p r =>
    have e : stepP [] p = p := by simp [stepP]
    unfold glue
    rw [List.foldl_cons, e, raw_foldl r p (h p List.mem_cons_self) fun q hq => h q (List.mem_cons_of_mem _ hq)]
    rfl
theorem sg_cs : sg ", " = CS := by decide +kernel
theorem sg_join : ∀ ts : List Str, sg (Str.join ", " ts) = joinN (ts.map sg)
  | [] => rfl
  | [x] => rfl
  | x :: y :: r => by
    show sg (x ++ ", " ++ Str.join ", " (y :: r)) = _
    rw [sg_app, sg_app, sg_join (y :: r), sg_cs]
    rfl
theorem textFrom_pos : ∀ (ts : List Str) (k : Nat) (acc : Str), 0 < k → sg (textFrom k acc ts) = sg acc ++ (ts.map fun t => CS ++ sg t).flatten
  | [], k, acc, _ => by simp [textFrom]
  | t :: r, k, acc, h => by
    have e : ((if k > 0 then ", " else "" : String) : Str) = (", " : Str) := by rw [if_pos h]
    rw [textFrom, textFrom_pos r (k + 1) _ (Nat.succ_pos _), e, sg_app, sg_app, sg_cs]
    simp
theorem joinN_flat : ∀ (x : List Nat) (r : List (List Nat)), joinN (x :: r) = x ++ (r.map fun t => CS ++ t).flatten
  | x, [] => by simp [joinN]
  | x, y :: r => by rw [joinN_cons (by simp), joinN_flat y r]; simp
theorem sg_listText (ts : List Str) : sg (listText ts) = 91 :: (joinN (ts.map sg) ++ [93]) := by
  have e1 : sg "[" = [91] := by decide +kernel
  have e2 : sg "]" = [93] := by decide +kernel
  have e3 : sg "" = [] := by decide +kernel
  unfold listText
  rw [sg_app, e2]
  cases ts with
  | nil => rw [textFrom, e1]; rfl
  | cons t r =>
    have e : ((if 0 > 0 then ", " else "" : String) : Str) = ("" : Str) := rfl
    rw [textFrom, textFrom_pos r _ _ (Nat.succ_pos _), e, sg_app, sg_app, e1, e3, List.map_cons, joinN_flat]
    simp
    congr 2
theorem sg_tupleText (ts : List Str) : sg (tupleText ts) = 40 :: ((joinN (ts.map sg) ++ if ts.length = 1 then [44] else []) ++ [41]) := by
  have e1 : sg "(" = [40] := by decide +kernel
  have e2 : sg ")" = [41] := by decide +kernel
  have e3 : sg ",)" = [44, 41] := by decide +kernel
  unfold tupleText
  rw [sg_app, sg_app, sg_join, e1]
  by_cases h : ts.length = 1
  · rw [if_pos h, if_pos (by simp [h]), e3]; simp
  · rw [if_neg h, if_neg (by simp [h]), e2]; simp
theorem sg_dictText (ts : List Str) : sg (dictText ts) = 123 :: (joinN (ts.map sg) ++ [125]) := by
  have e1 : sg "{" = [123] := by decide +kernel
  have e2 : sg "}" = [125] := by decide +kernel
  unfold dictText
  rw [sg_app, sg_app, sg_join, e1, e2]
  simp
theorem shownAll_len : ∀ xs : List PyData, (PyData.shownAll xs).length = xs.length
  | [] => rfl
  | x :: r => by simp [PyData.shownAll, shownAll_len r]
mutual
theorem raw_shown : ∀ d : PyData, GoodD d → rawOf (pcs d) = sg d.shown
  | .none, _ => by simp [pcs, PyData.shown, rawOf]
  | .bool b, _ => by cases b <;> simp [pcs, PyData.shown, rawOf]
  | .int i, _ => by simp [pcs, PyData.shown, rawOf]
  | .str x, h => by
    rw [PyData.shown, text_raw (by simpa only [GoodD] using h)]
    simp [pcs, rawOf]
  | .list xs, h => by
    have h : GoodL xs := by simpa only [GoodD] using h
    rw [PyData.shown, sg_listText, ← raw_shownL xs h, ← raw_glue _ (pcsL_ne xs), pcs]
    simp [rawOf]
  | .tuple xs, h => by
    have h : GoodL xs := by simpa only [GoodD] using h
    rw [PyData.shown, sg_tupleText, ← raw_shownL xs h, ← raw_glue _ (pcsL_ne xs), pcs, shownAll_len]
    by_cases e : xs.length = 1
    · rw [if_pos e, if_pos e]; simp [rawOf]
    · rw [if_neg e, if_neg e]; simp [rawOf]
  | .dict kvs, h => by
    have h : GoodK kvs := by simpa only [GoodD] using h
    rw [PyData.shown, sg_dictText, ← raw_shownK kvs h, ← raw_glue _ (pcsK_ne kvs), pcs]
    simp [rawOf]
theorem raw_shownL : ∀ xs : List PyData, GoodL xs → (pcsL xs).map rawOf = (PyData.shownAll xs).map sg
  | [], _ => rfl
  | x :: r, h => by
    have h : GoodD x ∧ GoodL r := by simpa only [GoodL] using h
    rw [pcsL, PyData.shownAll, List.map_cons, List.map_cons, raw_shown x h.1, raw_shownL r h.2]
theorem raw_shownK : ∀ xs : List (PyData × PyData), GoodK xs → (pcsK xs).map rawOf = (PyData.shownKv xs).map sg
  | [], _ => rfl
  | (k, v) :: r, h => by
    have h : GoodD k ∧ GoodD v ∧ GoodK r := by simpa only [GoodK] using h
    have e : sg ": " = [58, 32] := by decide +kernel
    rw [pcsK, PyData.shownKv, List.map_cons, List.map_cons, raw_shownK r h.2.2, raw_app, raw_app, raw_shown k h.1, raw_shown v h.2.1, sg_app, sg_app, e]
    rfl
end
theorem bare_lit {x : List Nat} (h : (!x.isEmpty && x.all plainC) = true) : (bareP x).Good := by
  simp only [Bool.and_eq_true, Bool.not_eq_true', List.isEmpty_eq_false_iff, List.all_eq_true] at h
  exact ⟨rfl, h.1, h.2⟩
theorem gap_good : gapP.Good := ⟨rfl, rfl⟩
theorem good_foldl : ∀ (ps : List (List Pc)) (acc : List Pc), (∀ p ∈ acc, p.Good) → (∀ l ∈ ps, ∀ p ∈ l, p.Good) → ∀ p ∈ ps.foldl stepP acc, p.Good := by
  intro ps
  induction ps with
  | nil => intro acc h _; exact h
  | cons l r ih =>
    intro acc h hl
    rw [List.foldl_cons]
    refine ih _ ?_ fun q hq => hl q (List.mem_cons_of_mem _ hq)
    intro p hp
    unfold stepP at hp
    rcases List.mem_append.mp hp with hp | hp
    · split at hp
      · cases hp
      · rcases List.mem_append.mp hp with hp | hp
        · exact h p hp
        · simp only [List.mem_cons, List.not_mem_nil, or_false] at hp
          rcases hp with rfl | rfl
          · exact bare_lit (by decide)
          · exact gap_good
    · exact hl l List.mem_cons_self p hp
mutual
theorem pcs_good : ∀ d : PyData, GoodD d → ∀ p ∈ pcs d, p.Good
  | .none, _, p, hp => by
    simp only [pcs, List.mem_cons, List.not_mem_nil, or_false] at hp
    subst hp
    exact bare_lit (by decide +kernel)
  | .bool b, _, p, hp => by
    simp only [pcs, List.mem_cons, List.not_mem_nil, or_false] at hp
    subst hp
    cases b <;> exact bare_lit (by decide +kernel)
  | .int i, _, p, hp => by
    simp only [pcs, List.mem_cons, List.not_mem_nil, or_false] at hp
    subst hp
    exact int_good i
  | .str x, h, p, hp => by
    simp only [pcs, List.mem_cons, List.not_mem_nil, or_false] at hp
    subst hp
    exact text_good (by simpa only [GoodD] using h)
  | .list xs, h, p, hp => by
    have h : GoodL xs := by simpa only [GoodD] using h
    simp only [pcs, List.mem_cons, List.mem_append, List.not_mem_nil, or_false] at hp
    rcases hp with rfl | hp | rfl
    · exact bare_lit (by decide)
    · exact good_foldl _ _ (by simp) (pcsL_good xs h) p hp
    · exact bare_lit (by decide)
  | .tuple xs, h, p, hp => by
    have h : GoodL xs := by simpa only [GoodD] using h
    simp only [pcs, List.mem_cons, List.mem_append, List.not_mem_nil, or_false] at hp
    rcases hp with rfl | (hp | hp) | rfl
    · exact bare_lit (by decide)
    · exact good_foldl _ _ (by simp) (pcsL_good xs h) p hp
    · split at hp
      · simp only [List.mem_cons, List.not_mem_nil, or_false] at hp
        subst hp
        exact bare_lit (by decide)
      · cases hp
    · exact bare_lit (by decide)
  | .dict kvs, h, p, hp => by
    have h : GoodK kvs := by simpa only [GoodD] using h
    simp only [pcs, List.mem_cons, List.mem_append, List.not_mem_nil, or_false] at hp
    rcases hp with rfl | hp | rfl
    · exact bare_lit (by decide)
    · exact good_foldl _ _ (by simp) (pcsK_good kvs h) p hp
    · exact bare_lit (by decide)
theorem pcsL_good : ∀ xs : List PyData, GoodL xs → ∀ l ∈ pcsL xs, ∀ p ∈ l, p.Good
  | [], _, l, hl => by simp [pcsL] at hl
  | x :: r, h, l, hl => by
    have h : GoodD x ∧ GoodL r := by simpa only [GoodL] using h
    simp only [pcsL, List.mem_cons] at hl
    rcases hl with rfl | hl
    · exact pcs_good x h.1
    · exact pcsL_good r h.2 l hl
theorem pcsK_good : ∀ xs : List (PyData × PyData), GoodK xs → ∀ l ∈ pcsK xs, ∀ p ∈ l, p.Good
  | [], _, l, hl => by simp [pcsK] at hl
  | (k, v) :: r, h, l, hl => by
    have h : GoodD k ∧ GoodD v ∧ GoodK r := by simpa only [GoodK] using h
    simp only [pcsK, List.mem_cons] at hl
    rcases hl with rfl | hl
    · intro p hp
      simp only [List.mem_append, List.mem_cons, List.not_mem_nil, or_false] at hp
      rcases hp with (hp | rfl | rfl) | hp
      · exact pcs_good k h.1 p hp
      · exact bare_lit (by decide)
      · exact gap_good
      · exact pcs_good v h.2.1 p hp
    · exact pcsK_good r h.2.2 l hl
end
/-- the whole text: split gives the words -/
theorem law_whole {d : PyData} (h : GoodD d) {k : Nat} (hk : (sg d.shown).length < k) {room : Nat} (hr : (sg d.shown).length ≤ room) : lexF k (sg d.shown) = toL [] (wd [] none (pcs d) room) := by
  rw [lexF_lx k _ hk, ← raw_shown d h]
  rw [← raw_shown d h] at hr
  have e := wd_lx (pcs d) room [] [] none false (pcs_good d h) (.inl ⟨rfl, rfl, hr⟩) (by simp)
  rw [List.take_of_length_le hr, List.append_nil] at e
  exact e
/-- told short -/
theorem law_short {d : PyData} (h : GoodD d) {k room : Nat} (hk : room + 15 < k) (hr : room ≤ (sg d.shown).length) : lexF k ((sg d.shown).take room ++ TR) = toL [TRt] (wd [] none (pcs d) room) := by
  rw [lexF_lx k _ (by rw [List.length_append, List.length_take]; simp; omega), ← raw_shown d h]
  rw [← raw_shown d h] at hr
  exact wd_lx (pcs d) room TR [TRt] none false (pcs_good d h) (.inr ⟨rfl, rfl, hr⟩) (by simp)
/-- the whole's words are no None -/
theorem law_some {d : PyData} {room : Nat} (hr : (rawOf (pcs d)).length ≤ room) : ∃ ws, wd [] none (pcs d) room = some ws := by
  have all : ∀ (ps : List Pc) (ws : List (List Nat)) (cur : Option (List Nat)) (room : Nat), (rawOf ps).length ≤ room → ∃ us, wd ws cur ps room = some us := by
    intro ps
    induction ps with
    | nil => intro ws cur room _; exact ⟨_, rfl⟩
    | cons p r ih =>
      intro ws cur room hl
      have hlen : (rawOf (p :: r)).length = p.raw.length + (rawOf r).length := by simp [rawOf]
      simp only [wd]
      split
      · exact ⟨_, rfl⟩
      · split
        · exact ih _ _ _ (by omega)
        · rw [if_neg (by omega)]; exact ih _ _ _ (by omega)
        · exact ih _ _ _ (by omega)
  exact all _ _ _ _ hr


/-! a for by an invariant over the turn, the frame and the ledger -/
section
variable {w : World} {A : Around} {env : Env} {h₀ : Heap} {L : Addr} {s : Shared} {Q : Flow → Shared → Prop} {E : Value → Shared → Prop} {target : PySem.Expr} {body : List Stmt} {pos : Pos}
/-- what a turn leaves -/
noncomputable def TurnTo (h₀ : Heap) (L : Addr) (s : Shared) (I : Addr) (oI : Obj) (J : (Str → Option Value) → Led → Prop) (Q : Flow → Shared → Prop) (f : Flow) (s₃ : Shared) : Prop :=
  match f with
  | .brk => Q .next s₃
  | .ret v => Q (.ret v) s₃
  | _ => ∃ h' tk' m' news', s₃ = { s with heap := h', toks := tk' } ∧ Fr h₀ L h' m' ∧ News h₀ L h' ((I, oI) :: news') ∧ (∀ p ∈ news', @Ne Nat p.1 I) ∧ J m' news'
theorem loop_walk {I l : Addr} {ol : Obj} {n : Nat} {P : Nat → Value → Prop} {St : Nat → Heap → Prop} (W : Walks prg w A I [I, l] [I] n P St) (hE : PassesOwn (model prg w) A env E)
    (J : Nat → (Str → Option Value) → Led → Prop) (hJl : ∀ i m' nx, J i m' nx → (l, ol) ∈ nx) {h : Heap} {tk : Nat} {m₀ : Str → Option Value} {news₀ : Led} (hst : St 0 h) (F : Fr h₀ L h m₀) (N : News h₀ L h news₀)
    (hI : h₀.get? I = none) (hIL : @Ne Nat I L) (hIn : ∀ p ∈ news₀, @Ne Nat p.1 I) (h0 : J 0 m₀ news₀) (hlive : ∀ i h, St i h → ∃ o, h.get? I = some o ∧ ∃ fs, o.data = .fields fs)
    (hgo : ∀ i v (s' : Shared) (Q' : Unit → Shared → Prop) (E' : Value → Shared → Prop), St i s'.heap → Q' () s' → wpAny (model prg w) A (letOwnedTupleGo target (.ref I) v) Q' E' s')
    (turn : ∀ i v m₁ news₁ oI h tk, i < n → P i v → J i m₁ news₁ → Fr h₀ L h m₁ → News h₀ L h ((I, oI) :: news₁) → (∀ p ∈ news₁, @Ne Nat p.1 I) → (∃ fs, oI.data = .fields fs) →
      ∀ R : Flow → Shared → Prop, (∀ f s₃, TurnTo h₀ L s I oI (J (i + 1)) Q f s₃ → R f s₃) → wpAny (model prg w) A (assign target env v) (fun _ s₂ => wpAny (model prg w) A (execs body env) R E s₂) E { s with heap := h, toks := tk })
    (done : ∀ m₁ news₁ h tk, J n m₁ news₁ → Fr h₀ L h m₁ → News h₀ L h news₁ → Q .next { s with heap := h, toks := tk }) :
    codeAny (model prg w) A (.forLoop target (.ref I) body [] env) (fun r s' => match r with | .ok f => Q f s' | .error e => cameBackBy (model prg w) A env E e s') { s with heap := h, toks := tk } := by
  refine codeAny_forLoop_any
    (fun k s' => ∃ h' tk' m' news' i, s' = { s with heap := h', toks := tk' } ∧ St i h' ∧ Fr h₀ L h' m' ∧ News h₀ L h' news' ∧ (∀ p ∈ news', @Ne Nat p.1 I) ∧ J i m' news' ∧ i ≤ n ∧ k = n + 1 - i) ?_ (n + 1)
    ⟨h, tk, m₀, news₀, 0, rfl, hst, F, N, hIn, h0, Nat.zero_le _, rfl⟩
  rintro k s' ⟨h', tk', m', news', i, rfl, hst', F', N', hnI, hJ, hi, rfl⟩
  have next : ∀ h₁ : Heap, (∀ b o, b ∉ [I] → h'.get? b = some o → h₁.get? b = some o) → Fr h₀ L h₁ m' ∧ News h₀ L h₁ news' := fun h₁ hk₁ =>
    ⟨⟨F'.ns.at' fun o e => hk₁ _ o (fun q => hIL (List.mem_singleton.mp q).symm) e, fun b o e => hk₁ b o (fun q => by rw [List.mem_singleton.mp q, hI] at e; cases e) (F'.keep b o e), F'.above⟩,
      fun p hp => ⟨hk₁ _ _ (fun q => hnI p hp (List.mem_singleton.mp q)) (N' p hp).1, (N' p hp).2⟩⟩
  by_cases hlt : i < n
  · refine W.item i _ _ _ hlt hst' fun v h₁ tk₁ hP hst₁ hk₁ => ?_
    obtain ⟨F₁, N₁⟩ := next h₁ hk₁
    obtain ⟨oI, hoI, hfs⟩ := hlive _ _ hst₁
    refine hgo (i + 1) v _ _ _ hst₁ ?_
    have N₂ : News h₀ L h₁ ((I, oI) :: news') := fun p hp => by
      rcases List.mem_cons.mp hp with rfl | hp
      · exact ⟨hoI, hIL, hI⟩
      · exact N₁ p hp
    refine wpAny_passesOwn hE (wpAny_mono (turn i v m' news' oI h₁ tk₁ hlt hP hJ F₁ N₂ hnI hfs _ fun _ _ q => q) (fun _ s₂ h₂ => wpAny_passesOwn hE (wpAny_mono h₂ (fun f s₃ h₃ => ?_) fun _ _ e => e)) fun _ _ e => e)
    have go : (∃ h' tk' m' news', s₃ = { s with heap := h', toks := tk' } ∧ Fr h₀ L h' m' ∧ News h₀ L h' ((I, oI) :: news') ∧ (∀ p ∈ news', @Ne Nat p.1 I) ∧ J (i + 1) m' news') →
        ∃ m, m < n + 1 - i ∧ ∃ h' tk' m' news' i, s₃ = { s with heap := h', toks := tk' } ∧ St i h' ∧ Fr h₀ L h' m' ∧ News h₀ L h' news' ∧ (∀ p ∈ news', @Ne Nat p.1 I) ∧ J i m' news' ∧ i ≤ n ∧ m = n + 1 - i := by
      rintro ⟨h₄, tk₄, m₄, nx₄, rfl, F₄, N₄, hn₄, hJ₄⟩
      refine ⟨n + 1 - (i + 1), by omega, h₄, tk₄, m₄, nx₄, i + 1, rfl, ?_, F₄, fun p hp => N₄ p (List.mem_cons_of_mem _ hp), hn₄, hJ₄, hlt, rfl⟩
      refine W.frame _ _ _ hst₁ fun b hb o e => ?_
      rcases List.mem_cons.mp hb with rfl | hb
      · rw [hoI] at e; cases e
        exact (N₄ _ List.mem_cons_self).1
      · rw [List.mem_singleton.mp hb] at e ⊢
        rw [(N₁ _ (hJl _ _ _ hJ)).1] at e; cases e
        exact (N₄ _ (List.mem_cons_of_mem _ (hJl _ _ _ hJ₄))).1
    cases f with
    | next => exact go h₃
    | cont => exact go h₃
    | brk => exact h₃
    | ret v => exact h₃
  · have hin : i = n := by omega
    subst hin
    refine W.done _ _ _ hst' fun h₁ tk₁ hk₁ => wpAny_execs_nil ?_
    obtain ⟨F₁, N₁⟩ := next h₁ hk₁
    exact done m' news' h₁ tk₁ hJ F₁ N₁
noncomputable abbrev tupO (vs : Array Value) (n : Nat) : Obj := { cls := .type "tuple", dict := none, data := .seq vs n, slots := #[] }
noncomputable abbrev lisO (vs : Array Value) (n : Nat) : Obj := { cls := .type "list", dict := none, data := .seq vs n, slots := #[] }
/-- a for over a list of the ledger -/
theorem for_list {iter : PySem.Expr} {l : Addr} {vs : List Value} {nn : Nat} (hh : A.handled = none) (J : Nat → (Str → Option Value) → Led → Prop) {m₀ : Str → Option Value} {news₀ : Led} {h9 : Heap} {t9 : Nat} (_F₀ : Fr h₀ L h9 m₀) (_N₀ : News h₀ L h9 news₀)
    (hx : ∀ Q' : Value → Shared → Prop, (∀ h tk, Fr h₀ L h m₀ → News h₀ L h news₀ → Q' (.ref l) { s with heap := h, toks := tk }) → wpAny (model prg w) A (eval iter env) Q' E { s with heap := h9, toks := t9 })
    (hJl : ∀ i m' nx, J i m' nx → (l, lisO vs.toArray nn) ∈ nx) (h0 : J 0 m₀ news₀)
    (hgo : ∀ I i v (s' : Shared) (Q' : Unit → Shared → Prop) (E' : Value → Shared → Prop), s'.heap.IsListIter I l i → Q' () s' → wpAny (model prg w) A (letOwnedTupleGo target (.ref I) v) Q' E' s')
    (turn : ∀ i v m₁ news₁ I oI h tk, vs[i]? = some v → J i m₁ news₁ → Fr h₀ L h m₁ → News h₀ L h ((I, oI) :: news₁) → (∀ p ∈ news₁, @Ne Nat p.1 I) → (∃ fs, oI.data = .fields fs) →
      ∀ R : Flow → Shared → Prop, (∀ f s₃, TurnTo h₀ L s I oI (J (i + 1)) Q f s₃ → R f s₃) → wpAny (model prg w) A (assign target env v) (fun _ s₂ => wpAny (model prg w) A (execs body env) R E s₂) E { s with heap := h, toks := tk })
    (done : ∀ m₁ news₁ h tk, J vs.length m₁ news₁ → Fr h₀ L h m₁ → News h₀ L h news₁ → Q .next { s with heap := h, toks := tk })
    (hs : ∀ x, foldedSetIterable iter env x = pure x := by intro _; rfl) (hE : PassesOwn (model prg w) A env E := by passes_own) :
    wpAny (model prg w) A (exec (.For target iter body [] pos) env) Q E { s with heap := h9, toks := t9 } := by
  refine wpAny_For (hx _ fun h tk F N => ?_) hs
  have hl := hJl _ _ _ h0
  have hol := (N _ hl).1
  have hls : h.IsList l vs.toArray := ⟨_, hol, rfl, nn, rfl⟩
  have hne : @Ne Nat l h.objs.size := Nat.ne_of_lt (Heap.lt_size hol)
  refine wpAny_pyIter_list hls ?_
  have W := Walks.list (prog := prg) (w := w) hh h.objs.size l hne vs.toArray
  rw [show vs.toArray.size = vs.length by simp] at W
  refine loop_walk W hE J hJl (tk := tk) ⟨⟨_, Heap.get?_push_size _ rfl, rfl, rfl⟩, hls.at fun o e => Heap.get?_push_of_some _ e⟩ (F.push _) (fun p hp => ⟨Heap.get?_push_of_some _ (N p hp).1, (N p hp).2⟩) (next_is_new F)
    (fun e => absurd F.ns.lt (e ▸ Nat.lt_irrefl _)) (fun p hp => Nat.ne_of_lt (Heap.lt_size (N p hp).1)) h0 (fun i h st => let ⟨o, ho, _, hd⟩ := st.1; ⟨o, ho, _, hd⟩) (fun i v s' Q' E' st q => hgo _ i v s' Q' E' st.1 q) ?_ done
  intro i v m₁ news₁ oI h tk hi hP hJ F N hn hf
  exact turn i v m₁ news₁ _ oI h tk (by simpa using hP) hJ F N hn hf
/-- a for over a tuple of the ledger -/
theorem for_tup {iter : PySem.Expr} {l : Addr} {vs : List Value} {nn : Nat} (hh : A.handled = none) (J : Nat → (Str → Option Value) → Led → Prop) {m₀ : Str → Option Value} {news₀ : Led} {h9 : Heap} {t9 : Nat} (_F₀ : Fr h₀ L h9 m₀) (_N₀ : News h₀ L h9 news₀)
    (hx : ∀ Q' : Value → Shared → Prop, (∀ h tk, Fr h₀ L h m₀ → News h₀ L h news₀ → Q' (.ref l) { s with heap := h, toks := tk }) → wpAny (model prg w) A (eval iter env) Q' E { s with heap := h9, toks := t9 })
    (hJl : ∀ i m' nx, J i m' nx → (l, tupO vs.toArray nn) ∈ nx) (h0 : J 0 m₀ news₀)
    (hgo : ∀ I i v (s' : Shared) (Q' : Unit → Shared → Prop) (E' : Value → Shared → Prop), s'.heap.IsTupleIter I l i → Q' () s' → wpAny (model prg w) A (letOwnedTupleGo target (.ref I) v) Q' E' s')
    (turn : ∀ i v m₁ news₁ I oI h tk, vs[i]? = some v → J i m₁ news₁ → Fr h₀ L h m₁ → News h₀ L h ((I, oI) :: news₁) → (∀ p ∈ news₁, @Ne Nat p.1 I) → (∃ fs, oI.data = .fields fs) →
      ∀ R : Flow → Shared → Prop, (∀ f s₃, TurnTo h₀ L s I oI (J (i + 1)) Q f s₃ → R f s₃) → wpAny (model prg w) A (assign target env v) (fun _ s₂ => wpAny (model prg w) A (execs body env) R E s₂) E { s with heap := h, toks := tk })
    (done : ∀ m₁ news₁ h tk, J vs.length m₁ news₁ → Fr h₀ L h m₁ → News h₀ L h news₁ → Q .next { s with heap := h, toks := tk })
    (hs : ∀ x, foldedSetIterable iter env x = pure x := by intro _; rfl) (hE : PassesOwn (model prg w) A env E := by passes_own) :
    wpAny (model prg w) A (exec (.For target iter body [] pos) env) Q E { s with heap := h9, toks := t9 } := by
  refine wpAny_For (hx _ fun h tk F N => ?_) hs
  have hl := hJl _ _ _ h0
  have hol := (N _ hl).1
  have hls : h.IsTuple l vs.toArray := ⟨_, hol, rfl, nn, rfl⟩
  have hne : @Ne Nat l h.objs.size := Nat.ne_of_lt (Heap.lt_size hol)
  refine wpAny_pyIter_tuple hls ?_
  have W := Walks.tuple (prog := prg) (w := w) hh h.objs.size l hne vs.toArray
  rw [show vs.toArray.size = vs.length by simp] at W
  refine loop_walk W hE J hJl (tk := tk) ⟨⟨_, Heap.get?_push_size _ rfl, rfl, rfl⟩, hls.at fun o e => Heap.get?_push_of_some _ e⟩ (F.push _) (fun p hp => ⟨Heap.get?_push_of_some _ (N p hp).1, (N p hp).2⟩) (next_is_new F)
    (fun e => absurd F.ns.lt (e ▸ Nat.lt_irrefl _)) (fun p hp => Nat.ne_of_lt (Heap.lt_size (N p hp).1)) h0 (fun i h st => let ⟨o, ho, _, hd⟩ := st.1; ⟨o, ho, _, hd⟩) (fun i v s' Q' E' st q => hgo _ i v s' Q' E' st.1 q) ?_ done
  intro i v m₁ news₁ oI h tk hi hP hJ F N hn hf
  exact turn i v m₁ news₁ _ oI h tk (by simpa using hP) hJ F N hn hf
/-- a for over the keys of a dict of the ledger -/
theorem for_dict {K : Type} [DecidableEq K] {knd : KeyKind prg w K} {iter : PySem.Expr} {d : Addr} {kvs : List (K × Value)} {od : Obj} (hdo : od.IsDictOf knd kvs) (hds : (d == sysModules) = false) (hh : A.handled = none) (J : Nat → (Str → Option Value) → Led → Prop) {m₀ : Str → Option Value} {news₀ : Led}
    {h9 : Heap} {t9 : Nat} (_F₀ : Fr h₀ L h9 m₀) (_N₀ : News h₀ L h9 news₀)
    (hx : ∀ Q' : Value → Shared → Prop, (∀ h tk, Fr h₀ L h m₀ → News h₀ L h news₀ → Q' (.ref d) { s with heap := h, toks := tk }) → wpAny (model prg w) A (eval iter env) Q' E { s with heap := h9, toks := t9 })
    (hJl : ∀ i m' nx, J i m' nx → (d, od) ∈ nx) (h0 : J 0 m₀ news₀)
    (hgo : ∀ I i n ep v (s' : Shared) (Q' : Unit → Shared → Prop) (E' : Value → Shared → Prop), s'.heap.IsKeyIter I d i n ep → Q' () s' → wpAny (model prg w) A (letOwnedTupleGo target (.ref I) v) Q' E' s')
    (turn : ∀ i v k x m₁ news₁ I oI h tk, kvs[i]? = some (k, x) → knd.is k v = true → J i m₁ news₁ → Fr h₀ L h m₁ → News h₀ L h ((I, oI) :: news₁) → (∀ p ∈ news₁, @Ne Nat p.1 I) → (∃ fs, oI.data = .fields fs) →
      ∀ R : Flow → Shared → Prop, (∀ f s₃, TurnTo h₀ L s I oI (J (i + 1)) Q f s₃ → R f s₃) → wpAny (model prg w) A (assign target env v) (fun _ s₂ => wpAny (model prg w) A (execs body env) R E s₂) E { s with heap := h, toks := tk })
    (done : ∀ m₁ news₁ h tk, J kvs.length m₁ news₁ → Fr h₀ L h m₁ → News h₀ L h news₁ → Q .next { s with heap := h, toks := tk })
    (hs : ∀ x, foldedSetIterable iter env x = pure x := by intro _; rfl) (hE : PassesOwn (model prg w) A env E := by passes_own) :
    wpAny (model prg w) A (exec (.For target iter body [] pos) env) Q E { s with heap := h9, toks := t9 } := by
  refine wpAny_For (hx _ fun h tk F N => ?_) hs
  have hl := hJl _ _ _ h0
  have hol := (N _ hl).1
  obtain ⟨es, ep, r⟩ := hdo
  have hda : h.DictAt knd d kvs ep := ⟨od, es, hol, r⟩
  have hne : @Ne Nat d h.objs.size := Nat.ne_of_lt (Heap.lt_size hol)
  refine wpAny_pyIter_dict hds hda ?_
  have W := Walks.dictKeys (prog := prg) (w := w) (knd := knd) hh h.objs.size d hne kvs ep
  refine loop_walk W hE J hJl (tk := tk) ⟨⟨_, Heap.get?_push_size _ rfl, rfl, rfl⟩, hda.at' fun o e => Heap.get?_push_of_some _ e⟩ (F.push _) (fun p hp => ⟨Heap.get?_push_of_some _ (N p hp).1, (N p hp).2⟩) (next_is_new F)
    (fun e => absurd F.ns.lt (e ▸ Nat.lt_irrefl _)) (fun p hp => Nat.ne_of_lt (Heap.lt_size (N p hp).1)) h0 (fun i h st => let ⟨o, ho, _, hd⟩ := st.1; ⟨o, ho, _, hd⟩) (fun i v s' Q' E' st q => hgo _ i _ _ v s' Q' E' st.1 q) ?_ done
  intro i v m₁ news₁ oI h tk hi hP hJ F N hn hf
  obtain ⟨k, x, hkx, hkv⟩ := hP
  exact turn i v k x m₁ news₁ _ oI h tk hkx hkv hJ F N hn hf
end


/-! a comprehension over the signs of a text -/
section
variable {w : World} {A : Around} {E : Value → Shared → Prop} {s : Shared} {h₀ : Heap} {L : Addr} {m : Str → Option Value} {env : Env}
noncomputable def SrcS (w : World) (A : Around) (h₀ : Heap) (L : Addr) (m : Str → Option Value) (env : Env) (elt : PySem.Expr) (x : Str) (scope : Scope) (cl : List (Str × Addr)) (Q : Value → Shared → Prop) (xv : Value) (s₁ : Shared) : Prop :=
  ∃ y t news, xv = .str y t ∧ A.handled = none ∧ Fr h₀ L s₁.heap m ∧ News h₀ L s₁.heap news ∧ y.cps.size ≤ sizeLine ∧
    ∀ s₂ : Shared, (∃ h, s₂ = { s₁ with heap := h }) → LCg.CompRest prg w A h₀ L m env elt x scope cl s₂ (fun _ => True) (SignAt y) (LCg.FinE h₀ L m s₂ Q) y.cps.size 0 [] news
theorem ListComp_str {elt iter : PySem.Expr} {x : Str} {px : Pos} {scope : Scope} {cl : List (Str × Addr)} {pos : Pos} {Q : Value → Shared → Prop} (F₀ : Fr h₀ L s.heap m)
    (hclos : closureFor scope env = pure cl) (hcell : ∀ y ∈ scope.names, y.2 ≠ .cell) (hkind : scope.kind = .function)
    (hnames : ∀ y ∈ scope.names, y.2 = .local → scope.names.lookup y.1 = some .local) (hx : scope.names.lookup x = some .local)
    (h : wpAny (model prg w) A (eval iter env) (SrcS w A h₀ L m env elt x scope cl Q) E s)
    (hs : ∀ x, foldedSetIterable iter env x = pure x := by intro _; rfl) :
    wpAny (model prg w) A (eval (.ListComp elt [⟨.Name x px, iter, [], 0⟩] scope pos) env) Q E s := by
  rw [eval_ListComp]
  refine wpAny_comprehension_free (use := none) rfl hs hclos hkind hnames (wpAny_mono h (fun xv s₁ h₁ => ?_) fun _ _ e => e)
  obtain ⟨y, t, news, rfl, hh, F, N, hsz, R⟩ := h₁
  have fin : ∀ (o : Obj) (St : Nat → Heap → Prop), Walks prg w A s₁.heap.objs.size [s₁.heap.objs.size] [s₁.heap.objs.size] y.cps.size (SignAt y) St → (∀ i h, St i h → ∃ o, h.get? s₁.heap.objs.size = some o) → St 0 (s₁.heap.push o) → _ := fun o St W hIo hst =>
    LCg.block_U (env := env) (elt := elt) (iter := iter) (px := px) (pos := pos) (E := E) (s₂ := { s₁ with heap := s₁.heap.push o }) W hsz hIo
      (fun i h h' o nw st e e' _ _ _ => W.frame _ _ _ st fun b hb o' e1 => by rw [List.mem_singleton.mp hb] at e1 ⊢; rw [e] at e1; cases e1; exact e') hcell hkind hx hst (fun b hb => by
        rw [List.mem_singleton.mp hb]
        show s₁.heap.objs.size < (s₁.heap.push _).objs.size
        rw [Heap.size_push]; exact Nat.lt_succ_self _) (F.keeps fun _ _ e => Heap.get?_push_of_some _ e) (N.grown fun _ _ e => Heap.get?_push_of_some _ e) (Nat.ne_of_lt F.ns.lt) (next_is_new F) (fun p hp => Nat.ne_of_lt (Heap.lt_size (N p hp).1)) trivial (R _ ⟨_, rfl⟩)
      (RR := compPost (model prg w) A E none Q)
      (by
        intro D C h tk m' ys news' F' N' o1 hn hC₀ hD₀ hCL hDL hCD offC fin
        refine ⟨m', hn, fun h'' hs'' => fin D h'' tk (F'.change hs'' hCL hC₀) (fun p hp => ?_) o1⟩
        refine ⟨hs''.extBut _ _ ?_ (N' p hp).1, (N' p hp).2⟩
        rcases List.mem_cons.mp hp with rfl | hp
        · exact Ne.symm hCD
        · exact offC p hp)
  cases ha : y.cps.all (· < 128)
  · exact wpAny_pyIter_wide ha (fin _ _ (Walks.strWide hh _ y t) (fun i h st => let ⟨o, ho, _⟩ := st; ⟨o, ho⟩) ⟨_, Heap.get?_push_size _ rfl, rfl, rfl⟩)
  · exact wpAny_pyIter_ascii ha (fin _ _ (Walks.strAscii hh _ y t) (fun i h st => let ⟨o, ho, _⟩ := st; ⟨o, ho⟩) ⟨_, Heap.get?_push_size _ rfl, rfl, rfl⟩)
end


/-! a comprehension over a text's signs, each told as a text -/
section
variable {w : World} {A : Around} {s : Shared} {h₀ : Heap} {L : Addr} {m : Str → Option Value} {env : Env}
theorem comp_map {elt : PySem.Expr} {x : Str} {scope : Scope} {cl : List (Str × Addr)} {y : Str} {news : Led} {Fin : List Value → Led → Prop} (f : Nat → List Nat)
    (el : ∀ c u I oI C oC D ys m₂ h tk (Q' E' : Value → Shared → Prop), LCg.NsObj oC m₂ → m₂ x = some (.str (one c) u) → Fr h₀ L h m → News h₀ L h ((I, oI) :: (C, oC) :: (D, LCg.lst ys) :: news) → LCg.Off3 I C D news →
      (∀ h' tk' t', Fr h₀ L h' m → News h₀ L h' ((I, oI) :: (C, oC) :: (D, LCg.lst ys) :: news) → Q' (.str (tx (f c)) t') { s with heap := h', toks := tk' }) →
      wpAny (model prg w) A (eval elt (compEnvC scope cl C env)) Q' E' { s with heap := h, toks := tk })
    (fin : ∀ ys, TextsAre ys ((sg y).map f) → Fin ys news) : ∀ k i ys, i + k = y.cps.size → TextsAre ys (((sg y).take i).map f) → LCg.CompRest prg w A h₀ L m env elt x scope cl s (fun _ => True) (SignAt y) Fin k i ys news := by
  intro k
  induction k with
  | zero =>
    intro i ys hi hy
    refine LCg.CompRest.zero (fin ys ?_)
    rw [List.take_of_length_le (by simp [sg]; omega)] at hy
    exact hy
  | succ k ih =>
    intro i ys hi hy
    refine LCg.CompRest.succ ?_
    rintro v I oI C oC D m₂ h tk E' ⟨c, u, hc, rfl⟩ hns hm F N off ne
    refine el c u I oI C oC D ys m₂ h tk _ _ hns hm F N off ?_
    intro h' tk' t' F' N'
    refine LCg.CompEnd.intro F' N' news (fun p hp => hp) off trivial (ih (i + 1) _ (by omega) ?_)
    have hc' : (sg y)[i]? = some c := by simpa [sg] using hc
    rw [List.take_add_one, hc', List.map_append]
    exact hy.snoc
end


/-! xs[-1] read and stored -/
section
variable {prog : Program} {w : World} {A : Around} {E : Value → Shared → Prop} {s : Shared} {h₀ : Heap} {L D : Addr} {m : Str → Option Value} {news news' : Led} {pre : Array Value} {n : Nat} {t : Tok} {x v : Value}
theorem get_last {Q : Value → Shared → Prop} (N : News h₀ L s.heap news) (hm : (D, lisO (pre.push x) n) ∈ news) (hsz : pre.size ≤ 100000) (h : Q x s) : wpAny (model prog w) A (getItem (.ref D) (.int (-1) t)) Q E s := by
  refine wpAny_getItem_list_neg (items := pre.push x) ⟨_, (N _ hm).1, rfl, n, rfl⟩ (by omega) ?_ (by decide) ?_ h
  · rw [Array.size_push]; omega
  · rw [Array.size_push, show ((-1 : Int) + ((pre.size + 1 : Nat) : Int)).toNat = pre.size by omega]
    simp
theorem set_lastH {l : Addr} {items : Array Value} {Q : Unit → Shared → Prop} (ho : s.heap.get? l = some (lisO items n)) (hn : 1 ≤ items.size) (hn2 : items.size ≤ 100000)
    (hQ : Q () { s with heap := s.heap.update l (Obj.mapSeq (·.setIfInBounds (items.size - 1) v)) }) : wpAny (model prog w) A (setItem (.ref l) (.int (-1) t) v) Q E s := by
  have hl : s.heap.IsList l items := ⟨_, ho, rfl, n, rfl⟩
  unfold setItem
  try with_reducible refine wpAny_holding ?_
  first | refine wpAny_bind (wpAny_pure ?_) | skip
  refine wpAny_bind (wpAny_sequenceKey hl.typeIs (by decide) ?_)
  refine wpAny_bind (wpAny_callSpecial?_slot (name := Str.ofString "__setitem__") hl.typeIs slot_list_setitem
    (wpAny_call_entry slot_list_setitem hl.typeIs entry_list_setitem ?_ (args_list_setitem _ _ _)))
  show wpAny _ _ (Builtin.List.listSubscript? (.int (-1) t) >>= _) _ _ s
  refine wpAny_bind (wpAny_listSubscript_int (fitsIndex_neg (by decide) (by decide)) ?_)
  have hidx := seqIndex_neg (k := -1) (n := items.size) (by decide) (by omega)
  have hj : items.size - 1 < items.size := by omega
  have hx' : items[items.size - 1]? = some items[items.size - 1] := Array.getElem?_eq_getElem hj
  show wpAny _ _ ((Builtin.List.listItems (.ref l) >>= fun xs => pure ((seqIndex? (-1) xs.size).bind fun i => xs[i]?.map (i, ·))) >>= _) _ _ s
  refine wpAny_bind (wpAny_bind ?_)
  show wpAny _ _ (seqItems? (.ref l) >>= _) _ _ s
  refine wpAny_bind (wpAny_seqItems ho rfl (wpAny_pure (wpAny_pure ?_)))
  rw [hidx, show ((-1 : Int) + (items.size : Int)).toNat = items.size - 1 by omega]
  simp only [Option.bind_some, hx', Option.map_some]
  refine wpAny_bind (wpAny_setSeqItemAt ho rfl ?_)
  first
    | exact wpAny_bind (wpAny_pure (wpAny_pure ⟨.none, rfl, wpAny_pure hQ⟩))
    | exact wpAny_pure ⟨.none, rfl, wpAny_pure hQ⟩
theorem set_last {Q : Unit → Shared → Prop} (F : Fr h₀ L s.heap m) (N : News h₀ L s.heap news) (U : Upd D (listOf (pre.push x) n) (listOf (pre.push v) n) news news') (hsz : pre.size ≤ 90000)
    (h : ∀ h', Fr h₀ L h' m → News h₀ L h' news' → Q () { s with heap := h' }) : wpAny (model prog w) A (setItem (.ref D) (.int (-1) t) v) Q E s := by
  obtain ⟨pre', post, rfl, rfl, a, b⟩ := U.split
  have z := N (D, listOf (pre.push x) n) (List.mem_append.mpr (.inr (.head _)))
  refine set_lastH z.1 (by rw [Array.size_push]; omega) (by rw [Array.size_push]; omega) (h _ (F.change (Heap.SameBut.update ..) z.2.1 z.2.2) (ki_turn _ N a b ?_ ?_))
  · rw [Array.size_push, Nat.add_sub_cancel]
    apply Array.toList_inj.mp
    simp
  · simp
end
theorem TextsAre.last {vs : List Value} {ts : List (List Nat)} {y : List Nat} (h : TextsAre vs (ts ++ [y])) : ∃ us t, vs = us ++ [.str (tx y) t] ∧ TextsAre us ts := by
  obtain ⟨tk, hl, rfl⟩ := h
  have hne : tk ≠ [] := by intro e; rw [e] at hl; simp at hl
  rw [← List.dropLast_concat_getLast hne] at hl ⊢
  have hl' : tk.dropLast.length = ts.length := by simpa using hl
  refine ⟨_, tk.getLast hne, ?_, ⟨tk.dropLast, hl', rfl⟩⟩
  rw [List.zipWith_append hl'.symm]
  rfl
theorem TextsAre.length {vs : List Value} {ts : List (List Nat)} (h : TextsAre vs ts) : vs.length = ts.length := by
  obtain ⟨tk, hl, rfl⟩ := h
  rw [List.length_zipWith, hl, Nat.min_self]


/-! keys that are texts or ints; the things on the ledger -/
theorem eqBool_si {w : World} {A : Around} {E : Value → Shared → Prop} {s : Shared} {a : Str} {b : Int} {t u : Tok} {Q : Bool → Shared → Prop} (h : Q false s) : wpAny (model prg w) A (eqBool (.str a t) (.int b u)) Q E s := by
  unfold eqBool
  refine wpAny_holding ?_
  rw [if_neg (show ¬ ((Value.str a t == Value.int b u) = true) from Bool.false_ne_true)]
  refine wpAny_bind (show wpAny _ _ (compareOp .Eq (.str a t) (.int b u)) _ _ _ from ?_)
  exact EqMixed.eq_str_int (wpAny_truthy_bool h)
theorem eqBool_is {w : World} {A : Around} {E : Value → Shared → Prop} {s : Shared} {a : Str} {b : Int} {t u : Tok} {Q : Bool → Shared → Prop} (h : Q false s) : wpAny (model prg w) A (eqBool (.int b u) (.str a t)) Q E s := by
  unfold eqBool
  refine wpAny_holding ?_
  rw [if_neg (show ¬ ((Value.int b u == Value.str a t) = true) from Bool.false_ne_true)]
  refine wpAny_bind (show wpAny _ _ (compareOp .Eq (.int b u) (.str a t)) _ _ _ from ?_)
  exact EqMixed.eq_int_str (wpAny_truthy_bool h)
noncomputable abbrev MK := Sum Str Int
noncomputable def mixIs : MK → Value → Bool
  | .inl x, v => Value.isStrOf x v
  | .inr i, v => Value.isInt i v
theorem mix_l {x : Str} {v : Value} (h : mixIs (.inl x) v = true) : ∃ t, v = .str x t := Value.isStrOf_shape h
theorem mix_r {i : Int} {v : Value} (h : mixIs (.inr i) v = true) : ∃ t, v = .int i t := Value.isInt_shape h
noncomputable def mixKind (w : World) : KeyKind prg w MK where
  is := mixIs
  hash := fun k => match k with
    | .inl x => hashStr w x
    | .inr i => hashInt i
  inj := fun v a b ha hb => by
    cases a with
    | inl x => cases b with
      | inl y => exact congrArg _ (Value.isStrOf_inj v x y ha hb)
      | inr j =>
        obtain ⟨t, rfl⟩ := mix_l ha
        obtain ⟨u, h⟩ := mix_r hb
        cases h
    | inr i => cases b with
      | inl y =>
        obtain ⟨t, rfl⟩ := mix_r ha
        obtain ⟨u, h⟩ := mix_l hb
        cases h
      | inr j => exact congrArg _ (Value.isInt_inj v i j ha hb)
  byValue := fun k v h => by
    cases k with
    | inl x => obtain ⟨t, rfl⟩ := mix_l h; rfl
    | inr i => obtain ⟨t, rfl⟩ := mix_r h; rfl
  pyHash := fun {A E s k v Q} hv h => by
    cases k with
    | inl x => obtain ⟨t, rfl⟩ := mix_l hv; exact wpAny_pyHash_str h
    | inr i => obtain ⟨t, rfl⟩ := mix_r hv; exact wpAny_pyHash_int h
  eqBool := fun {A E s a b u v Q} hu hv h => by
    cases a with
    | inl x =>
      obtain ⟨t, rfl⟩ := mix_l hu
      cases b with
      | inl y => obtain ⟨t', rfl⟩ := mix_l hv; exact wpAny_eqBool_str (by simpa using h)
      | inr j => obtain ⟨t', rfl⟩ := mix_r hv; exact eqBool_si (by simpa using h)
    | inr i =>
      obtain ⟨t, rfl⟩ := mix_r hu
      cases b with
      | inl y => obtain ⟨t', rfl⟩ := mix_l hv; exact eqBool_is (by simpa using h)
      | inr j => obtain ⟨t', rfl⟩ := mix_r hv; exact wpAny_eqBool_int (by
        have e : decide ((Sum.inr i : MK) = .inr j) = (i == j) := by rw [Bool.eq_iff_iff]; simp
        rw [e] at h; exact h)
  «strs» := fun k x t v h => by
    cases k with
    | inl y =>
      obtain ⟨u, hu⟩ := mix_l h
      injection hu with hx
      subst hx
      cases v <;> rfl
    | inr i =>
      obtain ⟨u, hu⟩ := mix_r h
      cases hu
noncomputable def encK : MK → PyData
  | .inl x => .str x
  | .inr i => .int i
mutual
/-- the ledger bears the datum at the value -/
inductive Has (w : World) (news : Led) : Value → PyData → Prop
  | none : Has w news .none .none
  | bool (b : Bool) : Has w news (.bool b) (.bool b)
  | int (i : Int) (t : Tok) : Has w news (.int i t) (.int i)
  | str (x : Str) (t : Tok) : Has w news (.str x t) (.str x)
  | list {a : Addr} {vs : List Value} {n : Nat} {xs : List PyData} : (a, lisO vs.toArray n) ∈ news → @LT.lt Nat _ 1 a → HasAll w news vs xs → Has w news (.ref a) (.list xs)
  | tuple {a : Addr} {vs : List Value} {n : Nat} {xs : List PyData} : (a, tupO vs.toArray n) ∈ news → HasAll w news vs xs → Has w news (.ref a) (.tuple xs)
  | dict {a : Addr} {o : Obj} {kvs : List (MK × Value)} {ds : List (PyData × PyData)} : (a, o) ∈ news → @LT.lt Nat _ 1 a → o.IsDictOf (mixKind w) kvs → HasKv w news kvs ds → Has w news (.ref a) (.dict ds)
inductive HasAll (w : World) (news : Led) : List Value → List PyData → Prop
  | nil : HasAll w news [] []
  | cons {v : Value} {vs : List Value} {d : PyData} {ds : List PyData} : Has w news v d → HasAll w news vs ds → HasAll w news (v :: vs) (d :: ds)
inductive HasKv (w : World) (news : Led) : List (MK × Value) → List (PyData × PyData) → Prop
  | nil : HasKv w news [] []
  | cons {k : MK} {v : Value} {r : List (MK × Value)} {d : PyData} {ds : List (PyData × PyData)} : Has w news v d → HasKv w news r ds → HasKv w news ((k, v) :: r) ((encK k, d) :: ds)
end
theorem Has.mono {w : World} {news news' : Led} (hs : ∀ a o, (a, o) ∈ news → (∀ fs, o.data ≠ .fields fs) → (a, o) ∈ news') {v : Value} {d : PyData} (h : Has w news v d) : Has w news' v d :=
  Has.rec (motive_1 := fun v d _ => Has w news' v d) (motive_2 := fun v d _ => HasAll w news' v d) (motive_3 := fun v d _ => HasKv w news' v d)
    .none (fun b => .bool b) (fun i t => .int i t) (fun x t => .str x t)
    (fun h1 h2 _ ih => .list (hs _ _ h1 (fun _ e => by cases e)) h2 ih) (fun h1 _ ih => .tuple (hs _ _ h1 (fun _ e => by cases e)) ih)
    (fun h1 h2 h3 _ ih => .dict (hs _ _ h1 (fun _ e => by obtain ⟨es, ep, _, hd, _⟩ := h3; rw [hd] at e; cases e)) h2 h3 ih) .nil (fun _ _ a b => .cons a b) .nil (fun _ _ a b => .cons a b) h
theorem HasAll.mono {w : World} {news news' : Led} (hs : ∀ a o, (a, o) ∈ news → (∀ fs, o.data ≠ .fields fs) → (a, o) ∈ news') : ∀ {v : List Value} {d : List PyData}, HasAll w news v d → HasAll w news' v d := by
  intro v
  induction v with
  | nil => intro d h; cases h; exact .nil
  | cons a v ih =>
    intro d h
    cases h with
    | cons h1 h2 => exact .cons (h1.mono hs) (ih h2)
theorem HasKv.mono {w : World} {news news' : Led} (hs : ∀ a o, (a, o) ∈ news → (∀ fs, o.data ≠ .fields fs) → (a, o) ∈ news') : ∀ {v : List (MK × Value)} {d : List (PyData × PyData)}, HasKv w news v d → HasKv w news' v d := by
  intro v
  induction v with
  | nil => intro d h; cases h; exact .nil
  | cons a v ih =>
    intro d h
    cases h with
    | cons h1 h2 => exact .cons (h1.mono hs) (ih h2)
theorem Has.sub {w : World} {news news' : Led} {v : Value} {d : PyData} (h : Has w news v d) (hs : ∀ p ∈ news, p ∈ news') : Has w news' v d := h.mono fun a o hm _ => hs _ hm
theorem HasAll.length {w : World} {news : Led} : ∀ {vs : List Value} {ds : List PyData}, HasAll w news vs ds → vs.length = ds.length := by
  intro vs
  induction vs with
  | nil => intro ds h; cases h; rfl
  | cons v vs ih =>
    intro ds h
    cases h with
    | cons h1 h2 => rw [List.length_cons, List.length_cons, ih h2]
theorem HasAll.get {w : World} {news : Led} : ∀ {vs : List Value} {ds : List PyData}, HasAll w news vs ds → ∀ {i : Nat} {v : Value}, vs[i]? = some v → ∃ d, ds[i]? = some d ∧ Has w news v d := by
  intro vs
  induction vs with
  | nil => intro ds h i v e; simp at e
  | cons u vs ih =>
    intro ds h i v e
    cases h with
    | cons h1 h2 =>
      cases i with
      | zero => simp at e; subst e; exact ⟨_, rfl, h1⟩
      | succ i =>
        obtain ⟨d, hd, hh⟩ := ih h2 (i := i) (by simpa using e)
        exact ⟨d, by simpa using hd, hh⟩
theorem HasKv.length {w : World} {news : Led} : ∀ {vs : List (MK × Value)} {ds : List (PyData × PyData)}, HasKv w news vs ds → vs.length = ds.length := by
  intro vs
  induction vs with
  | nil => intro ds h; cases h; rfl
  | cons v vs ih =>
    intro ds h
    cases h with
    | cons h1 h2 => rw [List.length_cons, List.length_cons, ih h2]
theorem HasKv.get {w : World} {news : Led} : ∀ {vs : List (MK × Value)} {ds : List (PyData × PyData)}, HasKv w news vs ds → ∀ {i : Nat} {k : MK} {v : Value}, vs[i]? = some (k, v) → ∃ d, ds[i]? = some (encK k, d) ∧ Has w news v d := by
  intro vs
  induction vs with
  | nil => intro ds h i k v e; simp at e
  | cons u vs ih =>
    intro ds h i k v e
    cases h with
    | cons h1 h2 =>
      cases i with
      | zero =>
        simp at e
        obtain ⟨rfl, rfl⟩ := e
        exact ⟨_, rfl, h1⟩
      | succ i =>
        obtain ⟨d, hd, hh⟩ := ih h2 (i := i) (by simpa using e)
        exact ⟨d, by simpa using hd, hh⟩
/-! what the ledger bears can be read off the heap -/
theorem reads_enc {w : World} {h : Heap} {k : MK} {v : Value} (hk : (mixKind w).is k v = true) : Reads h v (encK k) [] := by
  cases k with
  | inl x => obtain ⟨t, rfl⟩ := mix_l hk; exact .str x t
  | inr i => obtain ⟨t, rfl⟩ := mix_r hk; exact .int i t
theorem has_enc {w : World} {news : Led} {k : MK} {v : Value} (hk : (mixKind w).is k v = true) : Has w news v (encK k) := by
  cases k with
  | inl x => obtain ⟨t, rfl⟩ := mix_l hk; exact .str x t
  | inr i => obtain ⟨t, rfl⟩ := mix_r hk; exact .int i t
theorem reads_keys {w : World} {h : Heap} {es : List DictEntry} {kvs : List (MK × Value)} (hp : Pairs (mixKind w) es kvs) : ReadsAll h (es.map (·.key)) (kvs.map fun p => encK p.1) [] ∧ es.map (·.val) = kvs.map (·.2) := by
  induction hp with
  | nil => exact ⟨.nil, rfl⟩
  | cons h1 h2 _ ih => exact ⟨.cons (reads_enc h1) ih.1, by rw [List.map_cons, List.map_cons, h2, ih.2]⟩
theorem HasKv.keys {w : World} {news : Led} : ∀ {kvs : List (MK × Value)} {ds : List (PyData × PyData)}, HasKv w news kvs ds → ds.map (·.1) = kvs.map fun p => encK p.1 := by
  intro kvs
  induction kvs with
  | nil => intro ds h; cases h; rfl
  | cons v vs ih =>
    intro ds h
    cases h with
    | cons _ h2 => rw [List.map_cons, List.map_cons, ih h2]
noncomputable abbrev Lo (as : List Addr) : Prop := ∀ a ∈ as, @LT.lt Nat _ 1 a
theorem Lo.app {as bs : List Addr} (h1 : Lo as) (h2 : Lo bs) : Lo (as ++ bs) := fun a ha => (List.mem_append.mp ha).elim (h1 a) (h2 a)
theorem Lo.cons {a : Addr} {bs : List Addr} (h1 : @LT.lt Nat _ 1 a) (h2 : Lo bs) : Lo (a :: bs) := fun x ha => by
  rcases List.mem_cons.mp ha with rfl | ha
  · exact h1
  · exact h2 x ha
theorem Has.reads {w : World} {news : Led} {h : Heap} (hn : ∀ p ∈ news, h.get? p.1 = some p.2) {v : Value} {d : PyData} (hv : Has w news v d) : ∃ as, Reads h v d as ∧ Lo as := by
  refine Has.rec (motive_1 := fun v d _ => ∃ as, Reads h v d as ∧ Lo as) (motive_2 := fun v d _ => ∃ as, ReadsAll h v d as ∧ Lo as) (motive_3 := fun v d _ => ∃ as, ReadsAll h (v.map (·.2)) (d.map (·.2)) as ∧ Lo as)
    ⟨[], .none, fun _ h => nomatch h⟩ (fun b => ⟨[], .bool b, fun _ h => nomatch h⟩) (fun i t => ⟨[], .int i t, fun _ h => nomatch h⟩) (fun x t => ⟨[], .str x t, fun _ h => nomatch h⟩) ?_ ?_ ?_ ⟨[], .nil, fun _ h => nomatch h⟩ ?_ ⟨[], .nil, fun _ h => nomatch h⟩ ?_ hv
  · intro a vs n xs h1 h2 _ ih
    obtain ⟨as, r, l⟩ := ih
    exact ⟨_, .list (hn _ h1) rfl rfl r, l.cons h2⟩
  · intro a vs n xs h1 _ ih
    obtain ⟨as, r, l⟩ := ih
    exact ⟨_, .tuple (hn _ h1) rfl rfl r, l⟩
  · intro a o kvs ds h1 h2 h3 h4 ih
    obtain ⟨es, ep, hx, hd, _, hp, _⟩ := h3
    obtain ⟨rk, ev⟩ := reads_keys (h := h) hp
    obtain ⟨bs, rv, l⟩ := ih
    rw [← h4.keys] at rk
    rw [← ev] at rv
    exact ⟨_, .dict (hn _ h1) hx.1 hd rk rv, Lo.cons h2 (by simpa using l)⟩
  · intro v vs d ds _ _ a b
    obtain ⟨_, r, l⟩ := a
    obtain ⟨_, r', l'⟩ := b
    exact ⟨_, .cons r r', l.app l'⟩
  · intro k v r d ds _ _ a b
    obtain ⟨_, r, l⟩ := a
    obtain ⟨_, r', l'⟩ := b
    exact ⟨_, .cons r r', l.app l'⟩


/-! _law_text -/
theorem kw14 : True := by
  k_with "eval ListComp" => (k_here; k_dflt (refine ListComp_str (F₀ := by k_asm) (by with_unfolding_all rfl) (by decide) (by rfl) (by decide) (by rfl) ?_))
  trivial
noncomputable abbrev escD : List (PyData × PyData) := [(.str (Str.ofString "\\"), .str (Str.ofString "\\\\")), (.str (Str.ofString "\n"), .str (Str.ofString "\\n")), (.str (Str.ofString "\x7f"), .str (Str.ofString "\\x7f"))]
theorem esc_look (c : Nat) : (PySem.Spec.lookup (.str (one c)) escD).getD (.str (one c)) = .str (tx (esc c)) := by
  have e1 : Str.ofString "\\" = one 92 := by decide +kernel
  have e2 : Str.ofString "\n" = one 10 := by decide +kernel
  have e3 : Str.ofString "\x7f" = one 127 := by decide +kernel
  have f1 : Str.ofString "\\\\" = tx [92, 92] := by decide +kernel
  have f2 : Str.ofString "\\n" = tx [92, 110] := by decide +kernel
  have f3 : Str.ofString "\\x7f" = tx [92, 120, 55, 102] := by decide +kernel
  have s : ∀ k, PySem.Spec.same (.str (one k)) (.str (one c)) = decide (k = c) := fun k => by
    by_cases e : k = c
    · subst e; simp [PySem.Spec.same]
    · rw [decide_eq_false e]; exact one_ne e
  unfold escD
  rw [e1, e2, e3, f1, f2, f3]
  simp only [PySem.Spec.lookup, s, decide_eq_true_eq]
  unfold esc
  by_cases h1 : c = 92
  · subst h1; rfl
  rw [if_neg (Ne.symm h1), if_neg h1]
  by_cases h2 : c = 10
  · subst h2; rfl
  rw [if_neg (Ne.symm h2), if_neg h2]
  by_cases h3 : c = 127
  · subst h3; rfl
  rw [if_neg (Ne.symm h3), if_neg h3]
  rfl
theorem esc_get {c : Nat} {v : Value} (h : PyProof.V.Flat v ((PySem.Spec.lookup (.str (one c)) escD).getD (.str (one c)))) : ∃ t, v = .str (tx (esc c)) t := by
  rw [esc_look] at h
  exact h.str_inv
theorem join_nil : ∀ ts : List (List Nat), Str.join (Str.ofString "") (ts.map tx) = tx ts.flatten
  | [] => rfl
  | [y] => by simp [Str.join]
  | y :: z :: r => by
    have e0 : Str.ofString "" = Str.empty := by decide +kernel
    have ih := join_nil (z :: r)
    show tx y ++ Str.ofString "" ++ Str.join (Str.ofString "") (tx z :: r.map tx) = _
    rw [show Str.join (Str.ofString "") (tx z :: r.map tx) = tx (z :: r).flatten from ih, e0, Str.append_empty]
    exact Str.ext' (by simp [tx, Str.cps_append])
theorem zip_fst : ∀ (ts : List (List Nat)) (tk : List Tok), tk.length = ts.length → (List.zipWith (fun y t => (tx y, t)) ts tk).map (·.1) = ts.map tx
  | [], _, _ => by simp
  | y :: r, [], h => by simp at h
  | y :: r, u :: v, h => by simp only [List.zipWith_cons_cons, List.map_cons]; rw [zip_fst r v (by simpa using h)]
theorem flat_len (f : Nat → List Nat) : ∀ x : List Nat, (∀ y ∈ x.map f, y.length ≤ 4) → (x.map f).flatten.length ≤ 4 * x.length
  | [], _ => by simp
  | c :: r, h => by
    have h1 := h (f c) (by simp)
    have h2 := flat_len f r fun y hy => h y (by simp only [List.map_cons, List.mem_cons]; exact .inr hy)
    simp only [List.map_cons, List.flatten_cons, List.length_append, List.length_cons]
    omega
section
variable {prog : Program} {w : World} {A : Around} {E : Value → Shared → Prop} {s : Shared} {h₀ : Heap} {L : Addr} {news : Led}
/-- ''.join of a list of texts -/
theorem join_texts {D : Addr} {ys : List Value} {t : Tok} {ts : List (List Nat)} {Q : Value → Shared → Prop} (N : News h₀ L s.heap news) (hm : (D, LCg.lst ys) ∈ news) (hy : TextsAre ys ts) (hB : ∀ y ∈ ts, y.length ≤ 4) (hn : ts.length ≤ 500)
    (h : ∀ t' k, Q (.str (tx ts.flatten) t') { s with toks := k }) : wpAny (model prog w) A (call (.builtin "str.join") [.str (Str.ofString "") t, .ref D]) Q E s := by
  obtain ⟨tk, hl, rfl⟩ := hy
  have e1 : List.zipWith (fun y t => Value.str (tx y) t) ts tk = strValues (List.zipWith (fun y t => (tx y, t)) ts tk) := by
    unfold strValues
    rw [List.map_zipWith]
  have e2 := zip_fst ts tk hl
  refine SC.join (l := List.zipWith (fun y t => (tx y, t)) ts tk) (texts := ts.map tx) ?_ e2 ?_ ?_
  · rw [← e1]
    exact ⟨_, (N _ hm).1, rfl, _, rfl⟩
  · have := StrLaws.joinFits (sep := Str.ofString "") (texts := ts.map tx) (B := 4) (fun y hy => by
      obtain ⟨l, hl, rfl⟩ := List.mem_map.mp hy
      simpa [tx, Str.length] using hB l hl) (by
      have e0 : (Str.ofString "").length = 0 := by decide +kernel
      rw [List.length_map, e0]; omega)
    unfold JoinOk
    rw [this]; rfl
  · intro t' k
    rw [show Txt.join (Str.ofString "") (ts.map tx) = Builtin.Str.glued (Str.ofString "") (ts.map tx) from rfl, StrLaws.glued_eq_join, join_nil]
    exact h t' k
end
theorem esc_len (x : List Nat) : ∀ y ∈ x.map esc, y.length ≤ 4 := by
  intro y hy
  obtain ⟨c, _, rfl⟩ := List.mem_map.mp hy
  unfold esc
  repeat' split
  all_goals simp
theorem tol_len (x : List Nat) : ∀ y ∈ x.map tolC, y.length ≤ 4 := by
  intro y hy
  obtain ⟨c, _, rfl⟩ := List.mem_map.mp hy
  unfold tolC esc
  repeat' split
  all_goals simp
theorem kw15 : True := by
  k_with "call builtin:str.join" => (k_here; k_dflt (refine' join_texts ?kN ?km ?kt ?kb ?kn ?_; (case kN => k_asm); (case kt => assumption); (case km => exact List.Mem.head _); (case kb => first | exact esc_len _ | exact tol_len _); (case kn => (rw [List.length_map]; assumption)); k_whole); intro t' tk')
  trivial
theorem has39 {x : Str} {b : Bool} (h : (Builtin.Str.occurrences x (Str.ofString "'") 0 x.length 1).isEmpty = b) : decide (39 ∈ sg x) = !b := by
  have e1 : Str.ofString "'" = one 39 := by decide +kernel
  rw [e1] at h
  have h2 := StrLaws.found_one (x := x) (c := 39)
  rw [h] at h2
  exact h2.symm
theorem text_raw_len (x : Str) : ((textPc (sg x)).raw.length : Int) = ((tx ((sg x).map esc).flatten).length : Int) + 2 := by
  show (((markOf (sg x) :: ((sg x).flatMap esc ++ [markOf (sg x)])).length : Nat) : Int) = (((((sg x).map esc).flatten).toArray.size : Nat) : Int) + 2
  rw [List.size_toArray, ← List.flatMap_def]
  simp only [List.length_cons, List.length_append, List.length_nil]
  omega
theorem text_post {x : Str} {news news' : Led} {T : Addr} {n : Nat} {t1 t2 t3 : Tok} {size : Int} {told : Str} (hm : (T, tupO #[.int size t1, .str told t2, .str (Str.ofString "text") t3] n) ∈ news')
    (h1 : ((textPc (sg x)).raw.length : Int) = size) (h2 : tx (textPc (sg x)).told = told) (hs : ∀ p ∈ news, p ∈ news') :
    ∃ T' n t1 t2 t3, Value.ref T = .ref T' ∧ (T', tupO #[.int ((textPc (sg x)).raw.length : Int) t1, .str (tx (textPc (sg x)).told) t2, .str (Str.ofString "text") t3] n) ∈ news' ∧ ∀ p ∈ news, p ∈ news' := by
  subst h1
  subst h2
  exact ⟨T, n, t1, t2, t3, rfl, hm, hs⟩
theorem text_ok (w : World) (x : Str) (t : Tok) (hx : x.length ≤ 500) (news : Led) : Sp w 754 [.str x t] news 4 60 False (fun r news' => ∃ T n t1 t2 t3, r = .ref T ∧ (T, tupO #[.int ((textPc (sg x)).raw.length : Int) t1, .str (tx (textPc (sg x)).told) t2, .str (Str.ofString "text") t3] n) ∈ news' ∧ ∀ p ∈ news, p ∈ news') := by
  intro p loose mean mg mb dp un cn cs a ccd cl outer A₀ base h₀ L m s Q E B F X N T hk hdp hun hret hrz
  refine wpAny_call ?_
  k_dflt (refine' code_defC ?k1 ?k2 ?k3 ?k4 ?k5 ?kA ?kF ?kK ?k6 ?k7 ?k8 ?k9 ?kB ?kD ?_ ?c2 ?c3 ?c4; (case kA => exact rfl); (case kF => exact rfl); (case kK => assumption); (case k1 => k_asm); (case k2 => k_asm); (case k3 => k_asm); (case k4 => k_asm); (case k5 => k_asm); (case k6 => k_is); (case k7 => k_is); (case k8 => ktr_room); (case k9 => exact BindsTo.of_eq rfl); (case kB => exact rfl); (case kD => decide +kernel); (case c2 => exact rfl); (case c3 => exact rfl); (case c4 => exact rfl); k_whole; intro g' L' h' tk' cells' FG' F' N' Y' B' X' T' l1; (have hc9 : ∀ p ∈ news, p.1 ≠ (L' + 1) := fun p hp => Nat.ne_of_lt (Nat.lt_succ_of_lt (l1 p hp))); k_cells Y'; (try simp only [List.cons_append, List.nil_append] at N'); (try dsimp only); (try k_lift B'); (try k_fold))
  k_steps
  (rename News _ _ _ _ => N9)
  (rename Fr _ _ _ _ => F9)
  have hz9 := sizeLine_eq
  refine ⟨_, _, _, rfl, rfl, F9, N9, (by unfold Str.length at hx; omega), ?_⟩
  rintro s₂ ⟨h2, rfl⟩
  refine comp_map esc ?el ?fin _ 0 [] (by simp) TextsAre.nil
  case el =>
    intro c u I oI C oC D ys m₂ h tk Q' E' hns hm F N off ret
    k_steps
    (rename PyProof.V.Flat _ _ => H9)
    obtain ⟨t9, rfl⟩ := esc_get H9
    exact ret _ _ _ (by k_asm) (by k_asm)
  case fin =>
    intro ys hys D h tk F N off
    have hL9 : (tx ((sg x).map esc).flatten).length ≤ 2000 := by
      have := flat_len esc (sg x) (esc_len _)
      have hx' : (sg x).length ≤ 500 := by simpa [sg, Str.length] using hx
      show (((sg x).map esc).flatten).toArray.size ≤ 2000
      rw [List.size_toArray]; omega
    k_steps
    · have h39 := has39 (by assumption)
      have he2 : tx (textPc (sg x)).told = tx ((sg x).map esc).flatten := by
        show tx (toldOf (sg x)) = _
        unfold toldOf
        rw [if_neg (by simpa using h39), List.flatMap_def]
      exact hret _ _ _ _ (by k_asm) (by k_asm) (text_post List.mem_cons_self (text_raw_len x) he2 (by intro q hq; simp [hq]))
    · have h39 := has39 (by assumption)
      (rename News _ _ _ _ => N8)
      (rename Fr _ _ _ _ => F8)
      refine ⟨_, _, _, rfl, rfl, F8, N8, (by unfold Str.length at hx; omega), ?_⟩
      rintro s₂ ⟨h2, rfl⟩
      refine comp_map tolC ?el ?fin _ 0 [] (by simp) TextsAre.nil
      case el =>
        intro c u I oI C oC D ys m₂ h tk Q' E' hns hm F N off ret
        k_steps
        · have hc : tolC c = [c] := by
            have e1 : Str.ofString "\\" = one 92 := by decide +kernel
            have hb : (one c == Str.ofString "\\") = true := by assumption
            rw [e1] at hb
            rw [one_eq hb]; rfl
          rw [hc] at ret
          exact ret _ _ _ (by k_asm) (by k_asm)
        · have hc : tolC c = esc c := by
            have e1 : Str.ofString "\\" = one 92 := by decide +kernel
            have hb : (one c == Str.ofString "\\") = false := by assumption
            rw [e1] at hb
            unfold tolC
            rw [if_neg (one_neq hb)]
          (rename PyProof.V.Flat _ _ => H9)
          obtain ⟨t9, rfl⟩ := esc_get H9
          rw [hc] at ret
          exact ret _ _ _ (by k_asm) (by k_asm)
      case fin =>
        intro ys hys D h tk F N off
        k_steps
        have he2 : tx (textPc (sg x)).told = tx ((sg x).map tolC).flatten := by
          show tx (toldOf (sg x)) = _
          unfold toldOf
          rw [if_pos (by simpa using h39), List.flatMap_def]
        exact hret _ _ _ _ (by k_asm) (by k_asm) (text_post List.mem_cons_self (text_raw_len x) he2 (by intro q hq; simp [hq]))


/-! _law_words -/
noncomputable def kindS : PK → Str
  | .bare => Str.ofString "bare"
  | .gap => Str.ofString "gap"
  | .text => Str.ofString "text"
noncomputable def PcIs (news : Led) (v : Value) (p : Pc) : Prop := ∃ T n t1 t2 t3, v = .ref T ∧ (T, tupO #[.int (p.raw.length : Int) t1, .str (tx p.told) t2, .str (kindS p.kind) t3] n) ∈ news
noncomputable def PcsAre (news : Led) : List Value → List Pc → Prop
  | [], [] => True
  | v :: vs, p :: ps => PcIs news v p ∧ PcsAre news vs ps
  | _, _ => False
theorem PcIs.mono {news news' : Led} {v : Value} {p : Pc} (h : PcIs news v p) (hs : ∀ q ∈ news, q ∈ news') : PcIs news' v p :=
  let ⟨T, n, t1, t2, t3, e, hm⟩ := h; ⟨T, n, t1, t2, t3, e, hs _ hm⟩
theorem PcsAre.mono {news news' : Led} (hs : ∀ q ∈ news, q ∈ news') : ∀ {vs : List Value} {ps : List Pc}, PcsAre news vs ps → PcsAre news' vs ps
  | [], [], _ => trivial
  | v :: vs, p :: ps, h => ⟨h.1.mono hs, PcsAre.mono hs h.2⟩
  | [], _ :: _, h => h.elim
  | _ :: _, [], h => h.elim
theorem PcsAre.append {news : Led} : ∀ {vs us : List Value} {ps qs : List Pc}, PcsAre news vs ps → PcsAre news us qs → PcsAre news (vs ++ us) (ps ++ qs)
  | [], _, [], _, _, h => h
  | v :: vs, _, p :: ps, _, h, h' => ⟨h.1, PcsAre.append h.2 h'⟩
  | [], _, _ :: _, _, h, _ => h.elim
  | _ :: _, _, [], _, h, _ => h.elim
theorem PcsAre.length {news : Led} : ∀ {vs : List Value} {ps : List Pc}, PcsAre news vs ps → vs.length = ps.length
  | [], [], _ => rfl
  | v :: vs, p :: ps, h => by simp [PcsAre.length h.2]
  | [], _ :: _, h => h.elim
  | _ :: _, [], h => h.elim
theorem PcsAre.get {news : Led} : ∀ {vs : List Value} {ps : List Pc}, PcsAre news vs ps → ∀ {i : Nat} {v : Value}, vs[i]? = some v → ∃ p, ps[i]? = some p ∧ PcIs news v p
  | [], [], _, i, v, e => by simp at e
  | v :: vs, p :: ps, h, 0, u, e => by simp at e; subst e; exact ⟨p, rfl, h.1⟩
  | v :: vs, p :: ps, h, i + 1, u, e => by
    obtain ⟨q, hq, hr⟩ := PcsAre.get h.2 (i := i) (by simpa using e)
    exact ⟨q, by simpa using hq, hr⟩
  | [], _ :: _, h, _, _, _ => h.elim
  | _ :: _, [], h, _, _, _ => h.elim
section
variable {prog : Program} {w : World} {A : Around}
/-- a list's iterator keeps no tuple of its own -/
theorem go_list {es : List PySem.Expr} {k : Nat} {ps : Pos} {I l : Addr} {i : Nat} {v : Value} {s' : Shared} {Q' : Unit → Shared → Prop} {E' : Value → Shared → Prop} (h : s'.heap.IsListIter I l i) (q : Q' () s') :
    wpAny (model prog w) A (letOwnedTupleGo (.Tuple es k ps) (.ref I) v) Q' E' s' := by
  obtain ⟨o, ho, hc, hd⟩ := h
  cases v with
  | ref a =>
    unfold letOwnedTupleGo
    refine wpAny_bind (wpAny_load ho ?_)
    rw [hc, hd]
    exact wpAny_pure q
  | _ => exact wpAny_pure q
end
/-- what the loop of _law_words keeps -/
inductive wdJ (P : Addr) (oP : Obj) (news : Led) (ps : List Pc) (out : Option (List (List Nat))) (i : Nat) (m' : Str → Option Value) (nx : Led) : Prop
  | mk (ws : List (List Nat)) (cur : Option (List Nat)) (rm : Nat) (W : Addr) (us : Array Value) (c : Nat) (t : Tok) (e1 : m' (Str.ofString "pieces") = some (.ref P)) (e2 : m' (Str.ofString "words") = some (.ref W)) (e3 : m' (Str.ofString "begun") = some (.bool (Option.isSome cur))) (e4 : m' (Str.ofString "room") = some (.int ((rm : Nat) : Int) t))
    (en : nx = (W, lisO us c) :: news) (hW : ∀ p ∈ news, @Ne Nat p.1 W) (hu : TextsAre us.toList (ws ++ cur.toList)) (hw : wd ws cur (ps.drop i) rm = out) (hr : rm ≤ 1000) (hs : us.size ≤ i) (hy : ∀ y ∈ ws ++ cur.toList, y.length ≤ 2000 * i) : wdJ P oP news ps out i m' nx
theorem fr_put4 {h₀ h : Heap} {L : Addr} {m : Str → Option Value} {x1 x2 x3 x4 : Str} {v1 v2 v3 v4 : Value} (F : Fr h₀ L h m) (e1 : m x1 = some v1) (e2 : m x2 = some v2) (e3 : m x3 = some v3) (e4 : m x4 = some v4) :
    Fr h₀ L h (fun y => if y = x1 then some v1 else if y = x2 then some v2 else if y = x3 then some v3 else if y = x4 then some v4 else m y) := by
  have := fr_put (fr_put3 F e2 e3 e4) (x := x1) (v := v1) (by
    split
    · rename_i q; rw [← e2, ← q]; exact e1
    · split
      · rename_i q; rw [← e3, ← q]; exact e1
      · split
        · rename_i q; rw [← e4, ← q]; exact e1
        · exact e1)
  exact this
theorem TurnTo.go {h₀ : Heap} {L : Addr} {s : Shared} {I : Addr} {oI : Obj} {J : (Str → Option Value) → Led → Prop} {Q : Flow → Shared → Prop} {h' : Heap} {tk' : Nat} {m' : Str → Option Value} {led nx : Led} (F : Fr h₀ L h' m') (N : News h₀ L h' led)
    (sub : ∀ p ∈ (I, oI) :: nx, p ∈ led) (hne : ∀ p ∈ nx, @Ne Nat p.1 I) (j : J m' nx) : TurnTo h₀ L s I oI J Q .next { s with heap := h', toks := tk' } :=
  ⟨h', tk', m', nx, rfl, F, fun p hp => N p (sub p hp), hne, j⟩
theorem TurnTo.ret {h₀ : Heap} {L : Addr} {s s₃ : Shared} {I : Addr} {oI : Obj} {J : (Str → Option Value) → Led → Prop} {Q : Flow → Shared → Prop} {v : Value} (h : Q (.ret v) s₃) : TurnTo h₀ L s I oI J Q (.ret v) s₃ := h
theorem wdJ_mk {P : Addr} {oP : Obj} {news : Led} {ps : List Pc} {out : Option (List (List Nat))} {i : Nat} {m' : Str → Option Value} (ws : List (List Nat)) (cur : Option (List Nat)) (rm : Nat) {W : Addr} {us : Array Value} {c : Nat} {t : Tok} {b : Bool} {x : Int}
    (e1 : m' (Str.ofString "pieces") = some (.ref P)) (e2 : m' (Str.ofString "words") = some (.ref W)) (e3 : m' (Str.ofString "begun") = some (.bool b)) (e4 : m' (Str.ofString "room") = some (.int x t)) (hb : b = Option.isSome cur) (hx : x = ((rm : Nat) : Int))
    (hW : ∀ p ∈ news, @Ne Nat p.1 W) (hu : TextsAre us.toList (ws ++ cur.toList)) (hw : wd ws cur (ps.drop i) rm = out) (hr : rm ≤ 1000) (hs : us.size ≤ i) (hy : ∀ y ∈ ws ++ cur.toList, y.length ≤ 2000 * i) : wdJ P oP news ps out i m' ((W, lisO us c) :: news) :=
  ⟨ws, cur, rm, W, us, c, t, e1, e2, hb ▸ e3, hx ▸ e4, rfl, hW, hu, hw, hr, hs, hy⟩
theorem room_is (a b : Nat) : (if (a : Int) - (b : Int) > 0 then (a : Int) - (b : Int) else 0) = ((a - b : Nat) : Int) := by
  split <;> omega
theorem tx_app (a b : List Nat) : tx a ++ tx b = tx (a ++ b) := Str.ext' (by simp [tx, Str.cps_append])
theorem nil_app (b : List Nat) : Str.ofString "" ++ tx b = tx ([] ++ b) := by rw [ofS_nil]; exact tx_app [] b
theorem tx_len (a : List Nat) : (tx a).length = a.length := by simp [tx, Str.length]
theorem ne_swap {W I : Addr} {o o' : Obj} {news : Led} (h : ∀ p ∈ (W, o) :: news, @Ne Nat p.1 I) : ∀ p ∈ (W, o') :: news, @Ne Nat p.1 I := fun p hp => by
  rcases List.mem_cons.mp hp with rfl | hp
  · exact h (W, o) List.mem_cons_self
  · exact h p (List.mem_cons_of_mem _ hp)
theorem slice_take (told : List Nat) (rm : Nat) : Txt.slice (tx told) none (some (rm : Int)) = tx (told.take rm) := by
  have h1 : Txt.slice (tx told) none (some (rm : Int)) = StrLaws.sliceText (tx told) none (some (rm : Int)) := rfl
  rw [h1]
  by_cases hle : rm ≤ told.length
  · rw [StrLaws.sliceText_to ⟨by omega, by simpa [tx] using (by omega : (rm : Int) ≤ told.length)⟩]
    apply Str.ext'
    simp [tx]
  · have e : StrLaws.sliceText (tx told) none (some (rm : Int)) = StrLaws.sliceText (tx told) none (some (((tx told).length : Nat) : Int)) := by
      unfold StrLaws.sliceText
      have a : ¬ ((rm : Int) < 0) := by omega
      have b : ¬ (((tx told).length : Int) < 0) := by omega
      have c : max (0 : Int) (min (rm : Int) ((tx told).length : Int)) = ((tx told).length : Int) := by rw [tx_len]; omega
      have d : max (0 : Int) (min ((tx told).length : Int) ((tx told).length : Int)) = ((tx told).length : Int) := by omega
      have f : (1 : Int) > 0 := by decide
      simp only [Builtin.Str.strSliceIndices, a, b, c, d, f, if_false, if_true]
    rw [e, StrLaws.sliceText_to ⟨by omega, by simp [tx, Str.length]⟩]
    apply Str.ext'
    rw [List.take_of_length_le (by omega : told.length ≤ rm)]
    simp [tx, Str.length]
theorem drop_at {α : Type} {l : List α} {i : Nat} {x : α} (h : l[i]? = some x) : l.drop i = x :: l.drop (i + 1) := by
  obtain ⟨hi, e⟩ := List.getElem?_eq_some_iff.mp h
  rw [List.drop_eq_getElem_cons hi, e]
theorem kw16 : True := by
  k_with "call builtin:list.append" => (k_here; (with_reducible show wpAny _ _ (call (Value.builtin _) [Value.ref _, _]) _ _ _); k_dflt (refine' append_K ?k1 ?k2 ?k3 ?_ ?z; (case k1 => k_asm); (case k2 => k_asm); (case k3 => k_upd); (case z => assumption); k_whole); intro h' F' N'; (try k_sweep))
  k_with "getItem ref int" => (k_here; (with_reducible show wpAny _ _ (getItem (Value.ref _) (Value.int (-1) _)) _ _ _); k_dflt (refine' get_last ?k1 ?k2 ?k3 ?_; (case k1 => k_asm); (case k2 => k_mem); (case k3 => omega); k_whole))
  k_with "setItem ref int" => (k_here; (with_reducible show wpAny _ _ (setItem (Value.ref _) (Value.int (-1) _) _) _ _ _); k_dflt (refine' set_last ?k1 ?k2 ?k3 ?k4 ?_; (case k1 => k_asm); (case k2 => k_asm); (case k3 => k_upd); (case k4 => omega); k_whole); intro h' F' N'; (try k_sweep))
  k_with "inplaceOp Add str str" => (k_here; k_dflt (refine' iadd_str ?_ ?rZ; (case rZ => assumption); k_whole); intro t' tk')
  k_with "exec For Tuple Name cons nil" => (k_here; refine stop_intro ?_)
  trivial
theorem wdJ_elim {g h : Heap} {L P : Addr} {oP : Obj} {news nx : Led} {ps : List Pc} {out : Option (List (List Nat))} {i : Nat} {m : Str → Option Value} {G : Prop} (j : wdJ P oP news ps out i m nx) (F : Fr g L h m)
    (k : ∀ (ws : List (List Nat)) (cur : Option (List Nat)) (rm : Nat) (W : Addr) (us : Array Value) (c : Nat) (t : Tok), Fr g L h (fun y => if y = Str.ofString "pieces" then some (.ref P) else if y = Str.ofString "words" then some (.ref W) else if y = Str.ofString "begun" then some (.bool (Option.isSome cur)) else if y = Str.ofString "room" then some (.int ((rm : Nat) : Int) t) else m y) →
      nx = (W, lisO us c) :: news → (∀ p ∈ news, @Ne Nat p.1 W) → TextsAre us.toList (ws ++ cur.toList) → wd ws cur (ps.drop i) rm = out → rm ≤ 1000 → us.size ≤ i → (∀ y ∈ ws ++ cur.toList, y.length ≤ 2000 * i) → G) : G := by
  cases j with
  | mk ws cur rm W us c t e1 e2 e3 e4 en hW hu hw hr hs hy => exact k ws cur rm W us c t (fr_put4 F e1 e2 e3 e4) en hW hu hw hr hs hy
theorem wd_zero {ws : List (List Nat)} {cur : Option (List Nat)} {p : Pc} {r : List Pc} : wd ws cur (p :: r) 0 = some (ws ++ cur.toList) := by
  obtain ⟨raw, told, kind⟩ := p
  cases kind <;> simp [wd]
noncomputable abbrev scW : Scope :=
  { kind := .function, names := [(Str.ofString "pieces", .local), (Str.ofString "room", .local), (Str.ofString "words", .local), (Str.ofString "begun", .local), (Str.ofString "size", .local), (Str.ofString "told", .local), (Str.ofString "kind", .local), (Str.ofString "max", .globalImplicit)], isGenerator := false, isCoroutine := false }
noncomputable abbrev envW (L : Addr) : Env := envOf (Str.ofString "_law_words") scW L 768 (.ref 767)
/-- the first rows of a turn: the piece is taken apart; where no room is left the words go back -/
theorem wd_turn {w : World} {dp un : Nat} {cn : Str} {cs : Scope} {L₀ a₀ : Addr} {ccd : Value} {cl : List (Str × Addr)} {outer : List Env} {g h : Heap} {L P W T : Addr} {n : Nat} {s : Shared} {R : Flow → Shared → Prop} {E : Value → Shared → Prop} {tk rm : Nat} {t t1 t2 t3 : Tok} {m : Str → Option Value} {led : Led} {rest : List Stmt} {size : Int} {told kind : Str} {b : Bool} {k0 k1 : Nat} {p0 p1 p2 p3 p4 p5 p6 p7 p8 p9 : Pos}
    (_X : (hd.heap_1 w.params).In g) (F : Fr g L h (fun y => if y = Str.ofString "pieces" then some (.ref P) else if y = Str.ofString "words" then some (.ref W) else if y = Str.ofString "begun" then some (.bool b) else if y = Str.ofString "room" then some (.int (rm : Int) t) else m y)) (N : News g L h led)
    (hm : (T, tupO #[.int size t1, .str told t2, .str kind t3] n) ∈ led)
    (h0 : rm = 0 → ∀ (m' : Str → Option Value) h' tk', Fr g L h' m' → News g L h' led → R (.ret (.ref W)) { s with heap := h', toks := tk' })
    (hq : rm ≠ 0 → ∀ h' tk', Fr g L h' (fun y => if y = Str.ofString "kind" then some (.str kind t3) else if y = Str.ofString "told" then some (.str told t2) else if y = Str.ofString "size" then some (.int size t1) else if y = Str.ofString "pieces" then some (.ref P) else if y = Str.ofString "words" then some (.ref W) else if y = Str.ofString "begun" then some (.bool b) else if y = Str.ofString "room" then some (.int (rm : Int) t) else m y) → News g L h' led →
      wpAny (model prg w) ((ktrTop dp un (some []) cn cs L₀ a₀ ccd cl outer).deeper (envW L)) (execs rest (envW L)) R E { s with heap := h', toks := tk' }) :
    wpAny (model prg w) ((ktrTop dp un (some []) cn cs L₀ a₀ ccd cl outer).deeper (envW L)) (assign (.Tuple [.Name (Str.ofString "size") p0, .Name (Str.ofString "told") p1, .Name (Str.ofString "kind") p2] k0 p3) (envW L) (.ref T)) (fun _ s₂ => wpAny (model prg w) ((ktrTop dp un (some []) cn cs L₀ a₀ ccd cl outer).deeper (envW L)) (execs (.If (.Compare (.Name (Str.ofString "room") p4) [.Eq] [.Constant (.int 0) k1 p5] p6) [.Return (some (.Name (Str.ofString "words") p7)) p8] [] p9 :: rest) (envW L)) R E s₂) E { s with heap := h, toks := tk } := by
  k_steps
  · (rename Fr _ _ _ _ => F8)
    (rename News _ _ _ _ => N8)
    exact h0 (by omega) _ _ _ F8 N8
  · (rename Fr _ _ _ _ => F8)
    (rename News _ _ _ _ => N8)
    exact hq (by omega) _ _ F8 N8
theorem words_ok (w : World) (P : Addr) (vs : List Value) (nP : Nat) (ps : List Pc) (room : Nat) (tr : Tok) (news : Led) (hP : (P, lisO vs.toArray nP) ∈ news) (hvs : PcsAre news vs ps) (hr : room ≤ 1000) (hn : ps.length ≤ 1000) (hl : ∀ p ∈ ps, p.told.length ≤ 2000 ∧ p.raw.length ≤ 2000 ∧ p.raw ≠ []) :
    Sp w 768 [.ref P, .int (room : Int) tr] news 4 60 False (fun r news' => (∀ p ∈ news, p ∈ news') ∧ ((wd [] none ps room = none ∧ r = .none) ∨ ∃ ws W us c, wd [] none ps room = some ws ∧ r = .ref W ∧ (W, lisO us c) ∈ news' ∧ TextsAre us.toList ws)) := by
  intro p loose mean mg mb dp un cn cs a ccd cl outer A₀ base h₀ L m s Q E B F X N T hk hdp hun hret hrz
  refine wpAny_call ?_
  k_dflt ktr_enter
  rename_i g₁ L₁ h₁ FG₁ F₁ N₁ B₁ X₁ T₁
  k_steps
  refine stop_elim ?_
  (rename News _ _ _ _ => N9)
  (rename Fr g₁ L₁ _ _ => F9)
  refine for_list (l := P) (vs := vs) (nn := nP) rfl (wdJ P (lisO vs.toArray nP) news ps (wd [] none ps room)) F9 N9 ?hx ?hJl ?h0 ?hgo ?turn ?done
  case hx =>
    intro Q' hq
    k_steps
    exact hq _ _ (by k_asm) (by k_asm)
  case hJl =>
    intro i m' nx j
    cases j with
    | mk _ _ _ _ _ _ _ _ _ _ _ en => subst en; exact List.mem_cons_of_mem _ hP
  case h0 =>
    refine ⟨[], none, room, _, _, _, _, rfl, rfl, rfl, rfl, rfl, ?_, TextsAre.nil, by simp, hr, by simp, by simp⟩
    exact fun p hp => Nat.ne_of_lt (by first | exact allLt_all (by assumption) p hp | (have h9 : ∀ p ∈ news, @LT.lt Nat _ p.1 _ := (by assumption); exact h9 p hp))
  case hgo =>
    intro I i v s' Q' E' h q
    exact go_list h q
  case done =>
    intro m₁ nx h tk j F N
    refine wdJ_elim j F fun ws cur rm W us c t F4 en hW hu hw hrm hus hy => ?_
    subst en
    clear F j F9 N9
    k_steps
    rw [List.drop_of_length_le (Nat.le_of_eq hvs.length.symm)] at hw
    refine hret _ _ _ _ (by k_asm) (by k_asm) ⟨fun p hp => List.mem_cons_of_mem _ hp, .inr ⟨_, _, _, _, ?_, rfl, List.mem_cons_self, hu⟩⟩
    rw [← hw]
    rfl
  case turn =>
    intro i v m₁ nx I oI h tk hv j F N hne _ R hR
    obtain ⟨p, hp, T, n, t1, t2, t3, rfl, hm⟩ := hvs.get hv
    refine wdJ_elim j F fun ws cur rm W us c t F4 en hW hu hw hrm hus hy => ?_
    subst en
    clear F j F9 N9
    rw [drop_at hp] at hw
    have hIW : @Ne Nat I W := fun e => hne _ List.mem_cons_self e.symm
    have hi9 : i < ps.length := by rw [← hvs.length]; exact (List.getElem?_eq_some_iff.mp hv).1
    have hz9 := sizeLine_eq
    have hsz9 : us.size ≤ sizeLine := by omega
    with_reducible refine' wd_turn ?v1 ?v2 ?v3 ?v4 ?v5 ?v6
    case v1 => exact X₁
    case v2 => exact F4
    case v3 => exact N
    case v4 => exact List.mem_cons_of_mem _ (List.mem_cons_of_mem _ hm)
    case v5 =>
      intro h0 m' h' tk' F' N'
      subst h0
      rw [wd_zero] at hw
      refine hR _ _ (TurnTo.ret ?_)
      dsimp only
      k_steps
      exact hret _ _ _ _ (by k_asm) (by k_asm) ⟨fun p hp => by simp [hp], .inr ⟨_, _, _, _, hw.symm, rfl, List.mem_cons_of_mem _ List.mem_cons_self, hu⟩⟩
    clear F4 N
    intro h0 h' tk' F4 N4
    obtain ⟨raw, told, kind⟩ := p
    cases kind with
    | gap =>
      dsimp only [kindS] at F4
      simp only [wd] at hw
      k_steps
      · skip
        rw [if_neg h0] at hw
        (rename Fr g₁ L₁ _ _ => F8)
        (rename News g₁ L₁ _ _ => N8)
        refine hR _ _ <| TurnTo.go F8 N8 (fun p hp => hp) hne (wdJ_mk _ none _ rfl rfl rfl rfl rfl (room_is _ _) hW (by simpa using hu) hw (by omega) (by omega) (fun y hy' => Nat.le_trans (hy y (by simpa using hy')) (by omega)))
    | text =>
      dsimp only [kindS] at F4
      simp only [wd] at hw
      have hl9 := hl _ (List.mem_of_getElem? hp)
      dsimp only at hl9
      cases cur with
      | none =>
        have hz8 : (Str.ofString "").length + (tx told).length ≤ sizeLine := by
          rw [ofS_nil, tx_len, tx_len]; simp; omega
        k_steps
        · skip
          rw [if_neg h0, if_pos (by omega)] at hw
          refine hR _ _ (TurnTo.ret ?_)
          dsimp only
          k_steps
          exact hret _ _ _ _ (by k_asm) (by k_asm) ⟨fun p hp => by simp [hp], .inl ⟨hw.symm, rfl⟩⟩
        · skip
          rw [if_neg h0, if_neg (by omega)] at hw
          (rename Fr g₁ L₁ _ _ => F8)
          (rename News g₁ L₁ _ _ => N8)
          rw [nil_app] at N8
          refine hR _ _ <| TurnTo.go F8 N8 (fun p hp => hp) (ne_swap hne) (wdJ_mk ws (some ([] ++ told)) _ rfl rfl rfl rfl rfl (room_is _ _) hW ?_ hw (by omega) (by rw [Array.size_push]; omega) ?_)
          · rw [Array.toList_push]; exact TextsAre.snoc (by simpa using hu)
          · intro y hy'
            rcases List.mem_append.mp hy' with hy' | hy'
            · exact Nat.le_trans (hy y (by simp [hy'])) (by omega)
            · simp at hy'; subst hy'; omega
      | some y0 =>
        obtain ⟨us0, t0, e0, hu0⟩ := hu.last
        have e0' : us = us0.toArray.push (.str (tx y0) t0) := by
          apply Array.toList_inj.mp
          rw [e0]; simp
        subst e0'
        have hy0 : y0.length ≤ 2000 * i := hy y0 (by simp)
        have hz8 : (tx y0).length + (tx told).length ≤ sizeLine := by
          rw [tx_len, tx_len]; omega
        have hs8 : us0.toArray.size ≤ 1000 := by rw [Array.size_push] at hus; omega
        dsimp only [Option.isSome] at F4
        k_steps
        · skip
          rw [if_neg h0, if_pos (by omega)] at hw
          refine hR _ _ (TurnTo.ret ?_)
          dsimp only
          k_steps
          exact hret _ _ _ _ (by k_asm) (by k_asm) ⟨fun p hp => by simp [hp], .inl ⟨hw.symm, rfl⟩⟩
        · skip
          rw [if_neg h0, if_neg (by omega)] at hw
          (rename Fr g₁ L₁ _ _ => F8)
          (rename News g₁ L₁ _ _ => N8)
          rw [tx_app] at N8
          refine hR _ _ <| TurnTo.go F8 N8 (fun p hp => hp) (ne_swap hne) (wdJ_mk ws (some (y0 ++ told)) _ rfl rfl rfl rfl rfl (room_is _ _) hW ?_ hw (by omega) (by rw [Array.size_push] at hus ⊢; omega) ?_)
          · rw [Array.toList_push]; exact TextsAre.snoc hu0
          · intro y hy'
            rcases List.mem_append.mp hy' with hy' | hy'
            · exact Nat.le_trans (hy y (by simp [hy'])) (by omega)
            · simp at hy'; subst hy'; rw [List.length_append]; omega
    | bare =>
      dsimp only [kindS] at F4
      simp only [wd] at hw
      have hl9 := hl _ (List.mem_of_getElem? hp)
      dsimp only at hl9
      have ht9 : (told.take rm).length ≤ told.length := by rw [List.length_take]; exact Nat.min_le_right _ _
      cases cur with
      | none =>
        dsimp only [Option.isSome] at F4
        k_steps
        · skip
          rw [if_neg h0] at hw
          (rename Fr g₁ L₁ _ _ => F8)
          (rename News g₁ L₁ _ _ => N8)
          rw [slice_take, nil_app] at N8
          refine hR _ _ <| TurnTo.go F8 N8 (fun p hp => hp) (ne_swap hne) (wdJ_mk ws (some ([] ++ told.take rm)) _ rfl rfl rfl rfl rfl (room_is _ _) hW ?_ hw (by omega) (by rw [Array.size_push]; omega) ?_)
          · rw [Array.toList_push]; exact TextsAre.snoc (by simpa using hu)
          · intro y hy'
            rcases List.mem_append.mp hy' with hy' | hy'
            · exact Nat.le_trans (hy y (by simp [hy'])) (by omega)
            · rw [List.nil_append] at hy'
              have hy'' : y = told.take rm := by simpa using hy'
              rw [hy'']; omega
      | some y0 =>
        obtain ⟨us0, t0, e0, hu0⟩ := hu.last
        have e0' : us = us0.toArray.push (.str (tx y0) t0) := by
          apply Array.toList_inj.mp
          rw [e0]; simp
        subst e0'
        have hy0 : y0.length ≤ 2000 * i := hy y0 (by simp)
        have hz8 : (tx y0).length + (Txt.slice (tx told) none (some (rm : Int))).length ≤ sizeLine := by
          rw [slice_take, tx_len, tx_len]; omega
        have hs8 : us0.toArray.size ≤ 1000 := by rw [Array.size_push] at hus; omega
        dsimp only [Option.isSome] at F4
        k_steps
        · skip
          rw [if_neg h0] at hw
          (rename Fr g₁ L₁ _ _ => F8)
          (rename News g₁ L₁ _ _ => N8)
          rw [slice_take, tx_app] at N8
          refine hR _ _ <| TurnTo.go F8 N8 (fun p hp => hp) (ne_swap hne) (wdJ_mk ws (some (y0 ++ told.take rm)) _ rfl rfl rfl rfl rfl (room_is _ _) hW ?_ hw (by omega) (by rw [Array.size_push] at hus ⊢; omega) ?_)
          · rw [Array.toList_push]; exact TextsAre.snoc hu0
          · intro y hy'
            rcases List.mem_append.mp hy' with hy' | hy'
            · exact Nat.le_trans (hy y (by simp [hy'])) (by omega)
            · have hy'' : y = y0 ++ told.take rm := by simpa using hy'
              rw [hy'', List.length_append]; omega


/-! safe_repr -/
section
variable {w : World} {A : Around} {E : Value → Shared → Prop} {s : Shared} {h₀ : Heap} {L : Addr} {m : Str → Option Value} {news : Led} {v : Value} {d : PyData} {Q : Value → Shared → Prop}
theorem repr_has (F : Fr h₀ L s.heap m) (N : News h₀ L s.heap news) (hv : Has w news v d) (hgo : GoodD d) (hdp : d.depth ≤ 20) (hsz : d.shown.length ≤ 1000) (hg : A.guards = some []) (hu : A.units + 21 < cLine)
    (hQ : ∀ h' u tk, Fr h₀ L h' m → News h₀ L h' news → Q (.str d.shown u) { s with heap := h', toks := tk }) : wpAny (model prg w) A (call (.builtin "repr") [v]) Q E s := by
  have hz := sizeLine_eq
  have hs := good_showable d hgo
  obtain ⟨as, r, lo⟩ := hv.reads (fun p hp => (N p hp).1)
  have hsm : d.hasDict = true → sysModules ∉ as := fun _ hm => by have := lo _ hm; exact absurd this (by decide)
  cases hv with
  | none => exact P.repr_of_none (by have := hQ s.heap s.toks (s.toks + 1) F N; simpa only [PyData.shown] using this)
  | bool b => exact P.repr_of_bool (by have := hQ s.heap s.toks (s.toks + 1) F N; simpa only [PyData.shown] using this)
  | int i t => exact P.repr_of_int (by simpa only [GoodD] using hgo) (by have := hQ s.heap s.toks (s.toks + 1) F N; simpa only [PyData.shown] using this)
  | str x t => exact P.repr_of_str (by have := hQ s.heap s.toks (s.toks + 1) F N; simpa only [PyData.shown] using this) (by simp only [PyData.shown] at hsz; omega)
  | list _ _ _ => exact repr_of_reads' r hs hsm hg (by omega) (fun _ _ e => e) (fun h' u tk hk => hQ h' u tk (F.keptAll hk) (N.grown hk)) (by omega)
  | tuple _ _ => exact repr_of_reads' r hs hsm hg (by omega) (fun _ _ e => e) (fun h' u tk hk => hQ h' u tk (F.keptAll hk) (N.grown hk)) (by omega)
  | dict _ _ _ _ => exact repr_of_reads' r hs hsm hg (by omega) (fun _ _ e => e) (fun h' u tk hk => hQ h' u tk (F.keptAll hk) (N.grown hk)) (by omega)
end
theorem kw17 : True := by
  k_with "call builtin:repr" => (k_here; k_dflt (refine' repr_has ?k1 ?k2 ?k3 ?k4 ?k5 ?k6 ?k7 ?k8 ?_; (case k1 => k_asm); (case k2 => k_asm); (case k3 => assumption); (case k4 => assumption); (case k5 => assumption); (case k6 => assumption); (case k7 => exact rfl); (case k8 => ktr_units); k_whole); intro h' t' tk' F' N')
  trivial
theorem repr_ok (w : World) (v : Value) (d : PyData) (news : Led) (hv : Has w news v d) (hgo : GoodD d) (hdp : d.depth ≤ 20) (hsz : d.shown.length ≤ 1000) : Sp w 47 [v] news 4 80 False (fun r news' => (∃ t, r = .str d.shown t) ∧ news' = news) := by
  intro p loose mean mg mb dp un cn cs a ccd cl outer A₀ base h₀ L m s Q E B F X N T hk hdp' hun hret hrz
  refine wpAny_call ?_
  k_dflt ktr_enter
  k_steps
  exact hret _ _ _ _ (by k_asm) (by k_asm) ⟨⟨_, rfl⟩, rfl⟩
theorem tx_sg (x : Str) : tx (sg x) = x := Str.ext' (by simp [tx, sg])
theorem short_text (x : Str) : tx ((sg x).take 80 ++ TR) = Txt.slice x none (some 80) ++ Str.ofString " [truncated]..." := by
  have e1 : Str.ofString " [truncated]..." = tx TR := by decide +kernel
  have e2 := slice_take (sg x) 80
  rw [tx_sg] at e2
  rw [e1, show (some 80 : Option Int) = some ((80 : Nat) : Int) from rfl, e2, tx_app]
theorem repr_short (w : World) (v : Value) (d : PyData) (news : Led) (hv : Has w news v d) (hgo : GoodD d) (hdp : d.depth ≤ 20) (hsz : d.shown.length ≤ 1000) : Sp w 47 [v, .bool true] news 4 80 False (fun r news' => (∃ t, r = .str (if d.shown.length < 80 then d.shown else tx ((sg d.shown).take 80 ++ TR)) t) ∧ news' = news) := by
  intro p loose mean mg mb dp un cn cs a ccd cl outer A₀ base h₀ L m s Q E B F X N T hk hdp' hun hret hrz
  refine wpAny_call ?_
  k_dflt ktr_enter
  k_steps
  · have hlt : d.shown.length < 80 := by omega
    exact hret _ _ _ _ (by k_asm) (by k_asm) ⟨⟨_, by rw [if_pos hlt]⟩, rfl⟩
  · have hlt : ¬ d.shown.length < 80 := by omega
    refine hret _ _ _ _ (by k_asm) (by k_asm) ⟨⟨_, by rw [if_neg hlt, short_text]⟩, rfl⟩


/-! _law_pieces: its first two rows, once -/
noncomputable def Sub (l l' : Led) : Prop := ∀ p ∈ l, p ∈ l'
noncomputable abbrev scP : Scope :=
  { kind := .function, names := [(Str.ofString "thing", .local), (Str.ofString "comma", .local), (Str.ofString "colon", .local), (Str.ofString "inside", .local), (Str.ofString "item", .local), (Str.ofString "marks", .local), (Str.ofString "isinstance", .globalImplicit), (Str.ofString "str", .globalImplicit), (Str.ofString "_law_text", .globalImplicit), (Str.ofString "list", .globalImplicit), (Str.ofString "tuple", .globalImplicit), (Str.ofString "dict", .globalImplicit), (Str.ofString "len", .globalImplicit), (Str.ofString "_law_pieces", .globalImplicit)], isGenerator := false, isCoroutine := false }
noncomputable abbrev envP (L : Addr) : Env := envOf (Str.ofString "_law_pieces") scP L 761 (.ref 760)
theorem pc_lit {led : Led} {T : Addr} {n : Nat} {t1 t2 t3 : Tok} {size : Int} {told kind : Str} (hT : (T, tupO #[.int size t1, .str told t2, .str kind t3] n) ∈ led) (p : Pc) (h1 : (p.raw.length : Int) = size) (h2 : tx p.told = told) (h3 : kindS p.kind = kind) : PcIs led (.ref T) p := by
  subst h1; subst h2; subst h3
  exact ⟨T, n, t1, t2, t3, rfl, hT⟩
theorem mm1 {x : Addr × Obj} {l : Led} : x ∈ x :: l := List.mem_cons_self
theorem mm2 {a x : Addr × Obj} {l : Led} : x ∈ a :: x :: l := List.mem_cons_of_mem _ List.mem_cons_self
theorem mm3 {a b x : Addr × Obj} {l : Led} : x ∈ a :: b :: x :: l := List.mem_cons_of_mem _ (List.mem_cons_of_mem _ List.mem_cons_self)
theorem mm3t {a b c x : Addr × Obj} {l : Led} (h : x ∈ l) : x ∈ a :: b :: c :: l := List.mem_cons_of_mem _ (List.mem_cons_of_mem _ (List.mem_cons_of_mem _ h))
section
variable {w : World} {A : Around} {h₀ : Heap} {L : Addr} {s : Shared} {Q : Flow → Shared → Prop} {E : Value → Shared → Prop} {h : Heap} {tk : Nat} {m : Str → Option Value} {news : Led} {rest : List Stmt}
/-- x = [(1, a, b), (1, c, d)] -/
theorem pc_pair {x a b c d : Str} {pa pb : Pc} {k1 k2 k3 k4 k5 k6 k7 k8 : Nat} {p0 p1 p2 p3 p4 p5 p6 p7 p8 p9 pl : Pos} (hx : x = Str.ofString "comma" ∨ x = Str.ofString "colon") (F : Fr h₀ L h m) (N : News h₀ L h news)
    (a1 : (pa.raw.length : Int) = 1) (a2 : tx pa.told = a) (a3 : kindS pa.kind = b) (b1 : (pb.raw.length : Int) = 1) (b2 : tx pb.told = c) (b3 : kindS pb.kind = d)
    (hq : ∀ h' tk' CM led u1 u2 n, Fr h₀ L h' (fun y => if y = x then some (.ref CM) else m y) → News h₀ L h' led → Sub news led → (CM, lisO #[u1, u2] n) ∈ led → PcsAre led [u1, u2] [pa, pb] → wpAny (model prg w) A (execs rest (envP L)) Q E { s with heap := h', toks := tk' }) :
    wpAny (model prg w) A (execs (.Assign [.Name x p0] (.List [.Tuple [.Constant (.int 1) k1 p1, .Constant (.str a) k2 p2, .Constant (.str b) k3 p3] k4 p4, .Tuple [.Constant (.int 1) k5 p5, .Constant (.str c) k6 p6, .Constant (.str d) k7 p7] k8 p8] p9) pl :: rest) (envP L)) Q E { s with heap := h, toks := tk } := by
  rcases hx with rfl | rfl
  · k_steps
    rename Fr _ _ _ _ => F9
    rename News _ _ _ _ => N9
    exact hq _ _ _ _ _ _ _ F9 N9 (fun p hp => mm3t hp) mm1 ⟨pc_lit mm3 _ a1 a2 a3, pc_lit mm2 _ b1 b2 b3, trivial⟩
  · k_steps
    rename Fr _ _ _ _ => F9
    rename News _ _ _ _ => N9
    exact hq _ _ _ _ _ _ _ F9 N9 (fun p hp => mm3t hp) mm1 ⟨pc_lit mm3 _ a1 a2 a3, pc_lit mm2 _ b1 b2 b3, trivial⟩
theorem pc_start {v : Value} {k1 k2 k3 k4 k5 k6 k7 k8 i1 i2 i3 i4 i5 i6 i7 i8 : Nat} {p0 p1 p2 p3 p4 p5 p6 p7 p8 p9 pl q0 q1 q2 q3 q4 q5 q6 q7 q8 q9 ql : Pos} (F : Fr h₀ L h m) (e : m (Str.ofString "thing") = some v) (N : News h₀ L h news)
    (hq : ∀ (m' : Str → Option Value) h' tk' CM CL led u1 u2 w1 w2 nc nl, Fr h₀ L h' (fun y => if y = Str.ofString "colon" then some (.ref CL) else if y = Str.ofString "comma" then some (.ref CM) else if y = Str.ofString "thing" then some v else m' y) → News h₀ L h' led → Sub news led →
      (CM, lisO #[u1, u2] nc) ∈ led → PcsAre led [u1, u2] commaP → (CL, lisO #[w1, w2] nl) ∈ led → PcsAre led [w1, w2] colonP → wpAny (model prg w) A (execs rest (envP L)) Q E { s with heap := h', toks := tk' }) :
    wpAny (model prg w) A (execs (.Assign [.Name (Str.ofString "comma") p0] (.List [.Tuple [.Constant (.int 1) k1 p1, .Constant (.str (Str.ofString ",")) k2 p2, .Constant (.str (Str.ofString "bare")) k3 p3] k4 p4, .Tuple [.Constant (.int 1) k5 p5, .Constant (.str (Str.ofString "")) k6 p6, .Constant (.str (Str.ofString "gap")) k7 p7] k8 p8] p9) pl ::
      .Assign [.Name (Str.ofString "colon") q0] (.List [.Tuple [.Constant (.int 1) i1 q1, .Constant (.str (Str.ofString ":")) i2 q2, .Constant (.str (Str.ofString "bare")) i3 q3] i4 q4, .Tuple [.Constant (.int 1) i5 q5, .Constant (.str (Str.ofString "")) i6 q6, .Constant (.str (Str.ofString "gap")) i7 q7] i8 q8] q9) ql :: rest) (envP L)) Q E { s with heap := h, toks := tk } := by
  with_reducible refine' pc_pair (pa := bareP [44]) (pb := gapP) ?a1 ?a2 ?a3 ?a4 ?a5 ?a6 ?a7 ?a8 ?a9 ?a0
  case a1 => exact .inl rfl
  case a2 => exact fr_put F e
  case a3 => exact N
  case a4 => rfl
  case a5 => decide +kernel
  case a6 => rfl
  case a7 => rfl
  case a8 => decide +kernel
  case a9 => rfl
  intro _ _ CM _ u1 u2 nc F1 N1 s1 m1 p1
  with_reducible refine' pc_pair (pa := bareP [58]) (pb := gapP) ?b1 ?b2 ?b3 ?b4 ?b5 ?b6 ?b7 ?b8 ?b9 ?b0
  case b1 => exact .inr rfl
  case b2 => exact F1
  case b3 => exact N1
  case b4 => rfl
  case b5 => decide +kernel
  case b6 => rfl
  case b7 => rfl
  case b8 => decide +kernel
  case b9 => rfl
  intro h' tk' CL led w1 w2 nl F2 N2 s2 m2 p2
  have s3 : Sub news led := fun p hp => s2 p (s1 p hp)
  have m3 := s2 _ m1
  have p3 := p1.mono s2
  with_reducible exact hq m h' tk' CM CL led u1 u2 w1 w2 nc nl F2 N2 s3 m3 p3 m2 p2
end


/-! _law_pieces -/
noncomputable def PcsOut (led : Led) (d : PyData) (r : Value) (led' : Led) : Prop := Sub led led' ∧ ∃ S vs c, r = .ref S ∧ (S, lisO vs.toArray c) ∈ led' ∧ PcsAre led' vs (pcs d)
section
variable {w : World} {p : Program} {loose : List Str} {mean : ExcName → Option Value} {mg mb : Str → Option Value} {dp un : Nat} {cn : Str} {cs : Scope} {a : Addr} {ccd : Value} {cl : List (Str × Addr)} {outer : List Env} {A₀ : Around} {base h₀ : Heap} {L : Addr} {m : Str → Option Value} {s : Shared} {Q E : Value → Shared → Prop} {news : Led}
theorem text_call {x : Str} {t : Tok} (hx : x.length ≤ 500) (B : Below A₀ base outer h₀) (F : Fr h₀ L s.heap m) (X : (hd.heap_1 w.params).In h₀) (N : News h₀ L s.heap news) (T : Top p loose mean mg mb h₀) (hk : cs.kind = .function) (hd : dp + 4 < recursionLimit) (hu : un + 60 < cLine)
    (h : ∀ T n t1 t2 t3 led h' tk', Fr h₀ L h' m → News h₀ L h' led → (T, tupO #[.int ((textPc (sg x)).raw.length : Int) t1, .str (tx (textPc (sg x)).told) t2, .str (Str.ofString "text") t3] n) ∈ led → (∀ p ∈ news, p ∈ led) → Q (.ref T) { s with heap := h', toks := tk' }) :
    wpAny (model prg w) (ktrTop dp un (some []) cn cs L a ccd cl outer) (call (.ref 754) [.str x t]) Q E s :=
  sp_call (text_ok w x t hx news) B F X N T hk hd hu ⟨fun r nw h' tk' F' N' P9 => (by
    obtain ⟨T', n', t1', t2', t3', hr, hm, hs⟩ := P9
    subst hr
    exact h T' n' t1' t2' t3' nw h' tk' F' N' hm hs), fun z => z.elim⟩
end
theorem kw18 : True := by
  k_with "call ref" => (k_here; (with_reducible show wpAny _ _ (call (Value.ref 754) _) _ _ _); k_dflt (refine' text_call ?kX ?k1 ?k2 ?k3 ?k4 ?k5 ?kK ?kd ?ku ?_; (case kX => assumption); (case kK => exact rfl); (case k1 => k_asm); (case k2 => k_asm); (case k3 => k_asm); (case k4 => k_asm); (case k5 => k_asm); (case kd => ktr_room); (case ku => ktr_units)); k_dflt (intro T9' n9' t1' t2' t3' nw' h' tk' F' N' hm9' hs9'))
  k_with "call type:str" => (k_here; (with_reducible show wpAny _ _ (call (Value.type _) [Value.int _ _]) _ _ _); k_dflt (refine P.str_of_int (by assumption) ?_))
  trivial
theorem pcs_one {led news : Led} {d : PyData} {l T : Addr} {n n' : Nat} {t1 t2 t3 : Tok} {size : Int} {told kind : Str} (hl : (l, lisO #[.ref T] n) ∈ led) (hT : (T, tupO #[.int size t1, .str told t2, .str kind t3] n') ∈ led) (hs : ∀ p ∈ news, p ∈ led) (p : Pc)
    (hd : pcs d = [p]) (h1 : (p.raw.length : Int) = size) (h2 : tx p.told = told) (h3 : kindS p.kind = kind) : PcsOut news d (.ref l) led := by
  subst h1
  subst h2
  subst h3
  refine ⟨hs, l, [.ref T], n, rfl, hl, ?_⟩
  rw [hd]
  exact ⟨⟨T, n', t1, t2, t3, rfl, hT⟩, trivial⟩
noncomputable def isFlat : PyData → Bool
  | .list _ => false
  | .tuple _ => false
  | .dict _ => false
  | _ => true
theorem esc_pos (x : List Nat) : x.length ≤ (x.flatMap esc).length := by
  induction x with
  | nil => simp
  | cons c r ih =>
    have : 1 ≤ (esc c).length := by
      unfold esc
      split
      · simp
      · split
        · simp
        · split <;> simp
    rw [List.flatMap_cons, List.length_append, List.length_cons]
    omega
theorem pieces_flat (w : World) (v : Value) (d : PyData) (news : Led) (hv : Has w news v d) (hgo : GoodD d) (hfl : isFlat d = true) (hB : (rawOf (pcs d)).length ≤ 500) : Sp w 761 [v] news 8 120 False (PcsOut news d) := by
  intro p loose mean mg mb dp un cn cs a ccd cl outer A₀ base h₀ L m s Q E B F X N T hk hdp' hun hret hrz
  cases hv with
  | none =>
    refine wpAny_call ?_
    k_dflt ktr_enter
    rename_i g₁ L₁ h₁ FG₁ F₁ N₁ B₁ X₁ T₁
    with_reducible refine' pc_start ?e1 ?e2 ?e3 ?e4
    case e1 => exact F₁
    case e2 => exact rfl
    case e3 => exact N₁
    intro m' h' tk' CM CL led u1 u2 w1 w2 nc nl F2 N2 hs2 _ _ _ _
    clear F₁ N₁
    k_steps
    exact hret _ _ _ _ (by k_asm) (by k_asm) (pcs_one List.mem_cons_self (List.mem_cons_of_mem _ List.mem_cons_self) (by intro q hq; simp [hs2 q hq]) (bareP (sg "None")) (by simp [pcs]) (by decide +kernel) (tx_sg _) rfl)
  | bool b =>
    refine wpAny_call ?_
    k_dflt ktr_enter
    rename_i g₁ L₁ h₁ FG₁ F₁ N₁ B₁ X₁ T₁
    with_reducible refine' pc_start ?f1 ?f2 ?f3 ?f4
    case f1 => exact F₁
    case f2 => exact rfl
    case f3 => exact N₁
    intro m' h' tk' CM CL led u1 u2 w1 w2 nc nl F2 N2 hs2 _ _ _ _
    clear F₁ N₁
    k_steps
    exact hret _ _ _ _ (by k_asm) (by k_asm) (pcs_one List.mem_cons_self (List.mem_cons_of_mem _ List.mem_cons_self) (by intro q hq; simp [hs2 q hq]) (bareP (sg (if b then "True" else "False"))) (by simp [pcs]) (by cases b <;> decide +kernel) (tx_sg _) rfl)
  | int i t =>
    have hi9 : i.natAbs.log2 < 1920 := by simpa only [GoodD] using hgo
    have hl9 : (Str.ofString (toString i)).length ≤ 500 := by simpa [pcs, rawOf, sg, Str.length] using hB
    refine wpAny_call ?_
    k_dflt ktr_enter
    rename_i g₁ L₁ h₁ FG₁ F₁ N₁ B₁ X₁ T₁
    with_reducible refine' pc_start ?g1 ?g2 ?g3 ?g4
    case g1 => exact F₁
    case g2 => exact rfl
    case g3 => exact N₁
    intro m' h' tk' CM CL led u1 u2 w1 w2 nc nl F2 N2 hs2 _ _ _ _
    clear F₁ N₁
    k_steps
    exact hret _ _ _ _ (by k_asm) (by k_asm) (pcs_one List.mem_cons_self (List.mem_cons_of_mem _ List.mem_cons_self) (by intro q hq; simp [hs2 q hq]) (bareP (sg (toString i))) (by simp [pcs]) (by simp [sg, Str.length]) (tx_sg _) rfl)
  | str x t =>
    have hx9 : x.length ≤ 500 := by
      have h1 := esc_pos (sg x)
      have h2 : (rawOf (pcs (.str x))).length = ((sg x).flatMap esc).length + 2 := by simp [pcs, rawOf, textPc]
      have h3 : x.length = (sg x).length := by simp [sg, Str.length]
      omega
    refine wpAny_call ?_
    k_dflt ktr_enter
    rename_i g₁ L₁ h₁ FG₁ F₁ N₁ B₁ X₁ T₁
    with_reducible refine' pc_start ?h1 ?h2 ?h3 ?h4
    case h1 => exact F₁
    case h2 => exact rfl
    case h3 => exact N₁
    intro m' h' tk' CM CL led u1 u2 w1 w2 nc nl F2 N2 hs2 _ _ _ _
    clear F₁ N₁
    k_steps
    (rename ∀ p ∈ _, p ∈ _ => hs8)
    refine hret _ _ _ _ (by k_asm) (by k_asm) (pcs_one List.mem_cons_self (List.mem_cons_of_mem _ (by assumption)) (by intro q hq; exact List.mem_cons_of_mem _ (hs8 q (by simp [hs2 q hq]))) (textPc (sg x)) (by simp [pcs]) rfl rfl rfl)
  | list _ _ _ => simp [isFlat] at hfl
  | tuple _ _ => simp [isFlat] at hfl
  | dict _ _ _ _ => simp [isFlat] at hfl


/-! _law_pieces: lists, tuples, tables -/
theorem mm4 {a b c x : Addr × Obj} {l : Led} : x ∈ a :: b :: c :: x :: l := List.mem_cons_of_mem _ (List.mem_cons_of_mem _ (List.mem_cons_of_mem _ List.mem_cons_self))
theorem mm5 {a b c d x : Addr × Obj} {l : Led} : x ∈ a :: b :: c :: d :: x :: l := List.mem_cons_of_mem _ (List.mem_cons_of_mem _ (List.mem_cons_of_mem _ (List.mem_cons_of_mem _ List.mem_cons_self)))
theorem mm6 {a b c d e x : Addr × Obj} {l : Led} : x ∈ a :: b :: c :: d :: e :: x :: l := List.mem_cons_of_mem _ (List.mem_cons_of_mem _ (List.mem_cons_of_mem _ (List.mem_cons_of_mem _ (List.mem_cons_of_mem _ List.mem_cons_self))))
theorem mm7 {a b c d e f x : Addr × Obj} {l : Led} : x ∈ a :: b :: c :: d :: e :: f :: x :: l := List.mem_cons_of_mem _ (List.mem_cons_of_mem _ (List.mem_cons_of_mem _ (List.mem_cons_of_mem _ (List.mem_cons_of_mem _ (List.mem_cons_of_mem _ List.mem_cons_self)))))
theorem mm8 {a b c d e f g x : Addr × Obj} {l : Led} : x ∈ a :: b :: c :: d :: e :: f :: g :: x :: l := List.mem_cons_of_mem _ (List.mem_cons_of_mem _ (List.mem_cons_of_mem _ (List.mem_cons_of_mem _ (List.mem_cons_of_mem _ (List.mem_cons_of_mem _ (List.mem_cons_of_mem _ List.mem_cons_self))))))
theorem mm9 {a b c d e f g h x : Addr × Obj} {l : Led} (hx : x ∈ l) : x ∈ a :: b :: c :: d :: e :: f :: g :: h :: l := List.mem_cons_of_mem _ (List.mem_cons_of_mem _ (List.mem_cons_of_mem _ (List.mem_cons_of_mem _ (List.mem_cons_of_mem _ (List.mem_cons_of_mem _ (List.mem_cons_of_mem _ (List.mem_cons_of_mem _ hx)))))))
theorem mem_up {l l' : Led} {x : Addr × Obj} (h : Sub l l') (hx : x ∈ l) : x ∈ l' := h x hx
theorem kw19 : True := by
  k_with "n k_mem" => first | with_reducible assumption | exact List.Mem.head _ | (refine mem_up (by with_reducible assumption) ?_; k_mem) | (refine' List.Mem.tail _ ?_; k_mem)
  trivial
section
variable {w : World} {A : Around} {E : Value → Shared → Prop} {s : Shared} {h₀ : Heap} {L : Addr} {m : Str → Option Value} {news : Led} {Q : Value → Shared → Prop}
/-- xs != [] -/
theorem ne_nil {S l : Addr} {vs : List Value} {c c' : Nat} (N : News h₀ L s.heap news) (hS : (S, lisO vs.toArray c) ∈ news) (hl : (l, lisO #[] c') ∈ news) (hu : A.units < cLine) (b : Bool) (hb : vs.isEmpty = b) (h : Q (.bool (!b)) s) :
    wpAny (model prg w) A (compareOp .NotEq (.ref S) (.ref l)) Q E s := by
  subst hb
  have h1 : s.heap.IsList S vs.toArray := ⟨_, (N _ hS).1, rfl, c, rfl⟩
  have h2 : s.heap.IsList l #[] := ⟨_, (N _ hl).1, rfl, c', rfl⟩
  cases vs with
  | nil => exact SeqAt.RcNeAt.lists (e := fun _ => true) h1 h2 rfl hu (fun j hj => by simp at hj) prg w E Q h
  | cons v vs => exact SeqAt.RcNeAt.lists_lengths h1 h2 (by simp) hu prg w E Q h
/-- xs + ys -/
theorem add_two {l b : Addr} {vs ws : List Value} {c c' : Nat} (F : Fr h₀ L s.heap m) (N : News h₀ L s.heap news) (hl : (l, lisO vs.toArray c) ∈ news) (hb : (b, lisO ws.toArray c') ∈ news) (hsz : vs.length + ws.length ≤ 5000)
    (h : ∀ D h', Fr h₀ L h' m → News h₀ L h' ((D, lisO (vs ++ ws).toArray 0) :: news) → (∀ p ∈ news, @LT.lt Nat _ p.1 D) → Q (.ref D) { s with heap := h' }) : wpAny (model prg w) A (binaryOp .Add (.ref l) (.ref b)) Q E s := by
  have hz := sizeLine_eq
  exact add_lists F N ⟨_, (N _ hl).1, rfl, c, rfl⟩ ⟨_, (N _ hb).1, rfl, c', rfl⟩ (fun h' F' N' => h _ h' F' N' fun p hp => Heap.lt_size (N p hp).1) (by omega)
end
section
variable {w : World} {A : Around} {E : Value → Shared → Prop} {s : Shared} {h₀ : Heap} {L : Addr} {news : Led} {Q : Value → Shared → Prop}
theorem len_tup {a : Addr} {vs : List Value} {n : Nat} (N : News h₀ L s.heap news) (hm : (a, tupO vs.toArray n) ∈ news) (hz : vs.length ≤ 5000) (h : Q (.int (vs.length : Int) (s.toks + 1)) { s with toks := s.toks + 1 + 1 }) : wpAny (model prg w) A (call (.builtin "len") [.ref a]) Q E s :=
  len_tuple (News.isTup N hm) (by rw [List.size_toArray]; omega) (by rw [List.size_toArray]; exact h)
theorem len_lis {a : Addr} {vs : List Value} {n : Nat} (N : News h₀ L s.heap news) (hm : (a, lisO vs.toArray n) ∈ news) (hz : vs.length ≤ 5000) (h : Q (.int (vs.length : Int) (s.toks + 1)) { s with toks := s.toks + 1 + 1 }) : wpAny (model prg w) A (call (.builtin "len") [.ref a]) Q E s :=
  len_list ⟨_, (N _ hm).1, rfl, n, rfl⟩ (by rw [List.size_toArray]; omega) (by rw [List.size_toArray]; exact h)
end
theorem kw20 : True := by
  k_with "call builtin:len" => (k_here; (with_reducible show wpAny _ _ (call (Value.builtin _) [Value.ref _]) _ _ _); k_dflt (first | (refine' len_tup ?k1 ?k2 ?k3 ?_; (case k1 => k_asm); (case k2 => k_mem); (case k3 => assumption); k_whole) | (refine' len_lis ?k1 ?k2 ?k3 ?_; (case k1 => k_asm); (case k2 => k_mem); (case k3 => assumption); k_whole)))
  trivial
noncomputable def CallTo (w : World) (nx : Led) (v : Value) (d : PyData) (dN uN : Nat) : Prop := ∀ led, (∀ p ∈ nx, p ∈ led) → Sp w 761 [v] led dN uN False (PcsOut led d)
theorem CallTo.at {w : World} {nx led : Led} {v : Value} {d : PyData} {dN uN : Nat} (h : CallTo w nx v d dN uN) (hs : ∀ p ∈ nx, p ∈ led) : Sp w 761 [v] led dN uN False (PcsOut led d) := h led hs
section
variable {w : World} {p : Program} {loose : List Str} {mean : ExcName → Option Value} {mg mb : Str → Option Value} {dp un : Nat} {cn : Str} {cs : Scope} {a : Addr} {ccd : Value} {cl : List (Str × Addr)} {outer : List Env} {A₀ : Around} {base h₀ : Heap} {L : Addr} {m : Str → Option Value} {s : Shared} {Q E : Value → Shared → Prop} {news nx : Led}
theorem pieces_call {v : Value} {d : PyData} {dN uN : Nat} (S : CallTo w nx v d dN uN) (hs : ∀ p ∈ nx, p ∈ news) (B : Below A₀ base outer h₀) (F : Fr h₀ L s.heap m) (X : (hd.heap_1 w.params).In h₀) (N : News h₀ L s.heap news) (T : Top p loose mean mg mb h₀) (hk : cs.kind = .function) (hd : dp + dN < recursionLimit) (hu : un + uN < cLine)
    (h : ∀ S' vs c led h' tk', Fr h₀ L h' m → News h₀ L h' led → Sub news led → (S', lisO (vs : List Value).toArray c) ∈ led → PcsAre led vs (pcs d) → vs.length = (pcs d).length → Q (.ref S') { s with heap := h', toks := tk' }) :
    wpAny (model prg w) (ktrTop dp un (some []) cn cs L a ccd cl outer) (call (.ref 761) [v]) Q E s :=
  sp_call (S.at hs) B F X N T hk hd hu ⟨fun r nw h' tk' F' N' P9 => (by
    obtain ⟨hs9, S', vs, c, hr, hm, hp⟩ := P9
    subst hr
    exact h S' vs c nw h' tk' F' N' hs9 hm hp hp.length), fun z => z.elim⟩
end
theorem kw21 : True := by
  k_with "call ref" => (k_here; (with_reducible show wpAny _ _ (call (Value.ref 761) _) _ _ _); k_dflt (refine' pieces_call (by assumption) ?kS ?k1 ?k2 ?k3 ?k4 ?k5 ?kK ?kd ?ku ?_; (case kK => exact rfl); (case k1 => k_asm); (case k2 => k_asm); (case k3 => k_asm); (case k4 => k_asm); (case k5 => k_asm); (case kS => (intro p9' hp9'; k_mem)); (case kd => ktr_room); (case ku => ktr_units)); k_dflt (intro S9' vs9' c9' nw' h' tk' F' N' hs9' hm9' hp9' hl9'))
  k_with "binaryOp Add ref ref" => (k_here; (with_reducible show wpAny _ _ (binaryOp _ (Value.ref _) (Value.ref _)) _ _ _); k_dflt (refine' add_two ?k1 ?k2 ?k3 ?k4 ?k5 ?_; (case k1 => k_asm); (case k2 => k_asm); (case k3 => k_mem); (case k4 => k_mem); (case k5 => ((try simp only [List.length_cons, List.length_nil, List.length_append]); omega)); k_whole); intro D' h' F' N' l1; (try k_sweep))
  k_with "exec For Name Name cons nil" => (k_here; refine stop_intro ?_)
  trivial
/-- the contract, for all data of a depth -/
noncomputable def PiecesTo (w : World) (n : Nat) : Prop := ∀ d, d.depth ≤ n → GoodD d → (rawOf (pcs d)).length ≤ 500 → ∀ v news, Has w news v d → Sp w 761 [v] news (4 * n + 10) (50 * n + 150) False (PcsOut news d)
/-- what the loop of _law_pieces keeps -/
inductive inJ (a : Addr) (news : Led) (ps : List (List Pc)) (i : Nat) (m' : Str → Option Value) (nx : Led) : Prop
  | mk (S : Addr) (vs : List Value) (c : Nat) (CM : Addr) (u1 u2 : Value) (nc : Nat) (CL : Addr) (w1 w2 : Value) (nl : Nat) (e1 : m' (Str.ofString "thing") = some (.ref a)) (e2 : m' (Str.ofString "inside") = some (.ref S)) (e3 : m' (Str.ofString "comma") = some (.ref CM)) (e4 : m' (Str.ofString "colon") = some (.ref CL))
    (hs : Sub news nx) (hS : (S, lisO vs.toArray c) ∈ nx) (hvs : PcsAre nx vs (glue (ps.take i))) (hCM : (CM, lisO #[u1, u2] nc) ∈ nx) (hcm : PcsAre nx [u1, u2] commaP) (hCL : (CL, lisO #[w1, w2] nl) ∈ nx) (hcl : PcsAre nx [w1, w2] colonP) : inJ a news ps i m' nx
theorem mem_off {h₀ h : Heap} {L I : Addr} {led : Led} {oI : Obj} (N : News h₀ L h led) (hI : (I, oI) ∈ led) (hoI : ∃ fs, oI.data = .fields fs) {a : Addr} {o : Obj} (hm : (a, o) ∈ led) (hd : ∀ fs, o.data ≠ .fields fs) : (a, o) ∈ led.filter (fun p => decide (@Ne Nat p.1 I)) := by
  refine List.mem_filter.mpr ⟨hm, decide_eq_true fun e => ?_⟩
  have h1 := (N _ hm).1
  have h2 := (N _ hI).1
  rw [show a = I from e] at h1
  rw [h2] at h1
  obtain ⟨fs, hf⟩ := hoI
  have h3 : oI = o := Option.some.inj h1
  exact hd fs (h3 ▸ hf)
theorem PcsAre.off {led led' : Led} (hs : ∀ a o, (a, o) ∈ led → (∀ fs, o.data ≠ .fields fs) → (a, o) ∈ led') : ∀ {vs : List Value} {ps : List Pc}, PcsAre led vs ps → PcsAre led' vs ps
  | [], [], _ => trivial
  | v :: vs, p :: ps, ⟨⟨T, n, t1, t2, t3, e, hm⟩, h2⟩ => ⟨⟨T, n, t1, t2, t3, e, hs _ _ hm (fun _ e => by cases e)⟩, PcsAre.off hs h2⟩
  | [], _ :: _, h => h.elim
  | _ :: _, [], h => h.elim
/-- the end of a turn -/
theorem in_turn {g h' : Heap} {L : Addr} {s : Shared} {I : Addr} {oI : Obj} {Q : Flow → Shared → Prop} {tk' : Nat} {m' : Str → Option Value} {led news : Led} {a : Addr} {ps : List (List Pc)} {i : Nat} {S CM CL : Addr} {vs : List Value} {c nc nl : Nat} {u1 u2 w1 w2 : Value} (F : Fr g L h' m') (N : News g L h' led)
    (hI : (I, oI) ∈ led) (hoI : ∃ fs, oI.data = .fields fs) (hnI : ∀ p ∈ news, @Ne Nat p.1 I)
    (e1 : m' (Str.ofString "thing") = some (.ref a)) (e2 : m' (Str.ofString "inside") = some (.ref S)) (e3 : m' (Str.ofString "comma") = some (.ref CM)) (e4 : m' (Str.ofString "colon") = some (.ref CL))
    (hs : ∀ p ∈ news, p ∈ led) (hS : (S, lisO vs.toArray c) ∈ led) (hvs : PcsAre led vs (glue (ps.take (i + 1)))) (hCM : (CM, lisO #[u1, u2] nc) ∈ led) (hcm : PcsAre led [u1, u2] commaP) (hCL : (CL, lisO #[w1, w2] nl) ∈ led) (hcl : PcsAre led [w1, w2] colonP) :
    TurnTo g L s I oI (inJ a news ps (i + 1)) Q .next { s with heap := h', toks := tk' } := by
  have off := fun a o hm hd => mem_off N hI hoI (a := a) (o := o) hm hd
  refine TurnTo.go F N (nx := led.filter (fun p => decide (@Ne Nat p.1 I))) ?_ ?_ ⟨S, vs, c, CM, u1, u2, nc, CL, w1, w2, nl, e1, e2, e3, e4, ?_, off _ _ hS (fun _ e => by cases e), hvs.off off, off _ _ hCM (fun _ e => by cases e), hcm.off off, off _ _ hCL (fun _ e => by cases e), hcl.off off⟩
  · intro p hp
    rcases List.mem_cons.mp hp with rfl | hp
    · exact hI
    · exact (List.mem_filter.mp hp).1
  · intro p hp
    exact of_decide_eq_true (List.mem_filter.mp hp).2
  · intro p hp
    exact List.mem_filter.mpr ⟨hs p hp, decide_eq_true (hnI p hp)⟩
theorem up_of {h₀ h : Heap} {L : Addr} {led nx inner : Led} {x : Addr × Obj} (_N : News h₀ L h (x :: led)) (hs : Sub inner led) (hi : Sub nx inner) : Sub nx (x :: led) := fun p hp => List.mem_cons_of_mem _ (hs p (hi p hp))
/-- the pieces between two marks -/
theorem pcs_wrap {led news nx : Led} {d : PyData} {D T1 T2 : Addr} {vs : List Value} {c n1 n2 : Nat} {t1 t2 t3 t4 t5 t6 : Tok} {o1 o2 : Str} {ps : List Pc} (x1 x2 : Nat) (hD : (D, lisO ([Value.ref T1] ++ vs ++ [Value.ref T2]).toArray c) ∈ led)
    (h1 : (T1, tupO #[.int 1 t1, .str o1 t2, .str (Str.ofString "bare") t3] n1) ∈ led) (h2 : (T2, tupO #[.int 1 t4, .str o2 t5, .str (Str.ofString "bare") t6] n2) ∈ led) (hup : ∀ p ∈ nx, p ∈ led) (hs : ∀ p ∈ news, p ∈ nx) (hvs : PcsAre led vs ps)
    (hx1 : tx [x1] = o1) (hx2 : tx [x2] = o2) (hd : pcs d = bareP [x1] :: (ps ++ [bareP [x2]])) : PcsOut news d (.ref D) led := by
  subst hx1
  subst hx2
  refine ⟨fun p hp => hup p (hs p hp), D, _, c, rfl, hD, ?_⟩
  rw [hd, List.append_assoc]
  exact PcsAre.append (ps := [bareP [x1]]) ⟨⟨T1, n1, t1, t2, t3, rfl, h1⟩, trivial⟩ (hvs.append (qs := [bareP [x2]]) ⟨⟨T2, n2, t4, t5, t6, rfl, h2⟩, trivial⟩)
theorem mm6t {a b c d e f x : Addr × Obj} {l : Led} (hx : x ∈ l) : x ∈ a :: b :: c :: d :: e :: f :: l := by simp [hx]
theorem mm8t {a b c d e f g h x : Addr × Obj} {l : Led} (hx : x ∈ l) : x ∈ a :: b :: c :: d :: e :: f :: g :: h :: l := by simp [hx]
theorem pcsL_len : ∀ xs : List PyData, (pcsL xs).length = xs.length
  | [] => rfl
  | x :: r => by simp [pcsL, pcsL_len r]
theorem glue_step {ps : List (List Pc)} {i : Nat} {p : List Pc} (h : ps[i]? = some p) : glue (ps.take (i + 1)) = stepP (glue (ps.take i)) p := by
  unfold glue
  rw [List.take_add_one, h, List.foldl_append]
  rfl
theorem pcsL_get : ∀ {xs : List PyData} {i : Nat} {d : PyData}, xs[i]? = some d → (pcsL xs)[i]? = some (pcs d)
  | [], _, _, h => by simp at h
  | x :: r, 0, d, h => by simp at h; subst h; simp [pcsL]
  | x :: r, i + 1, d, h => by simp only [pcsL, List.getElem?_cons_succ]; exact pcsL_get (by simpa using h)
theorem foldl_len : ∀ (ps : List (List Pc)) (acc : List Pc), (rawOf acc).length ≤ (rawOf (ps.foldl stepP acc)).length
  | [], _ => Nat.le_refl _
  | p :: r, acc => by
    refine Nat.le_trans ?_ (foldl_len r (stepP acc p))
    unfold stepP
    split
    · rename_i h; rw [h]; exact Nat.zero_le _
    · rw [raw_app, raw_app, List.length_append, List.length_append]; omega
theorem glue_len (ps : List (List Pc)) (i : Nat) : (rawOf (glue (ps.take i))).length ≤ (rawOf (glue ps)).length := by
  have e : glue ps = (ps.drop i).foldl stepP (glue (ps.take i)) := by
    unfold glue
    rw [← List.foldl_append, List.take_append_drop]
  rw [e]
  exact foldl_len _ _
theorem item_len {ps : List (List Pc)} {i : Nat} {p : List Pc} (h : ps[i]? = some p) : (rawOf p).length ≤ (rawOf (glue ps)).length := by
  refine Nat.le_trans ?_ (glue_len ps (i + 1))
  rw [glue_step h]
  unfold stepP
  rw [raw_app, List.length_append]; omega
theorem count_le : ∀ {ps : List Pc}, (∀ p ∈ ps, p.Good) → ps.length ≤ (rawOf ps).length
  | [], _ => Nat.zero_le _
  | p :: r, h => by
    have h1 := count_le fun q hq => h q (List.mem_cons_of_mem _ hq)
    have h2 : 1 ≤ p.raw.length := by
      have hp := h p List.mem_cons_self
      unfold Pc.Good at hp
      cases hk : p.kind with
      | bare =>
        rw [hk] at hp
        have hne : p.raw ≠ [] := hp.2.1
        cases hr : p.raw with
        | nil => exact absurd hr hne
        | cons _ _ => simp
      | gap =>
        rw [hk] at hp
        have : p.raw = [32] := hp.1
        rw [this]; simp
      | text =>
        rw [hk] at hp
        obtain ⟨k, body, _, hr, _⟩ := (show TextPc p.raw p.told from hp)
        rw [hr]; simp
    have h3 : (rawOf (p :: r)).length = p.raw.length + (rawOf r).length := by simp [rawOf]
    rw [h3, List.length_cons]; omega
theorem foldl_cnt : ∀ (ps : List (List Pc)) (acc : List Pc), (∀ p ∈ ps, 1 ≤ (rawOf p).length) → (rawOf acc).length + ps.length ≤ (rawOf (ps.foldl stepP acc)).length
  | [], _, _ => by simp
  | p :: r, acc, h => by
    have h1 := foldl_cnt r (stepP acc p) fun q hq => h q (List.mem_cons_of_mem _ hq)
    have h2 := h p List.mem_cons_self
    have h3 : (rawOf acc).length + 1 ≤ (rawOf (stepP acc p)).length := by
      unfold stepP
      split
      · rename_i e; rw [e, raw_app, List.length_append]; simp [rawOf] at h2 ⊢; omega
      · rw [raw_app, raw_app, List.length_append, List.length_append]; omega
    rw [List.foldl_cons, List.length_cons]; omega
theorem raw_pos {d : PyData} (h : GoodD d) : 1 ≤ (rawOf (pcs d)).length := by
  have h1 := count_le (pcs_good d h)
  have h2 : 1 ≤ (pcs d).length := by
    cases e : pcs d with
    | nil => exact absurd e (pcs_ne d)
    | cons _ _ => simp
  omega
theorem goodL_get : ∀ {xs : List PyData}, GoodL xs → ∀ {i : Nat} {d : PyData}, xs[i]? = some d → GoodD d
  | [], _, _, _, h => by simp at h
  | x :: r, hg, 0, d, h => by simp at h; subst h; exact (show GoodD x ∧ GoodL r by simpa only [GoodL] using hg).1
  | x :: r, hg, i + 1, d, h => goodL_get (show GoodD x ∧ GoodL r by simpa only [GoodL] using hg).2 (by simpa using h)
theorem depthL_get : ∀ {xs : List PyData} {i : Nat} {d : PyData}, xs[i]? = some d → d.depth ≤ PyData.depthAll xs
  | [], _, _, h => by simp at h
  | x :: r, 0, d, h => by simp at h; subst h; simp only [PyData.depthAll]; exact Nat.le_max_left _ _
  | x :: r, i + 1, d, h => by simp only [PyData.depthAll]; exact Nat.le_trans (depthL_get (by simpa using h)) (Nat.le_max_right _ _)
theorem pcsL_pos : ∀ {xs : List PyData}, GoodL xs → ∀ p ∈ pcsL xs, 1 ≤ (rawOf p).length
  | [], _, p, h => by simp [pcsL] at h
  | x :: r, hg, p, h => by
    have hg' : GoodD x ∧ GoodL r := by simpa only [GoodL] using hg
    simp only [pcsL, List.mem_cons] at h
    rcases h with rfl | h
    · exact raw_pos hg'.1
    · exact pcsL_pos hg'.2 p h
theorem items_le {xs : List PyData} (hg : GoodL xs) : xs.length ≤ (rawOf (glue (pcsL xs))).length := by
  have := foldl_cnt (pcsL xs) [] (pcsL_pos hg)
  rw [pcsL_len] at this
  unfold glue
  omega
/-- at the loop's start -/
theorem inJ_start {a : Addr} {news led led2 : Led} {ps : List (List Pc)} {m : Str → Option Value} {S CM CL : Addr} {nS nc nl : Nat} {u1 u2 w1 w2 : Value}
    (e1 : m (Str.ofString "thing") = some (.ref a)) (e2 : m (Str.ofString "inside") = some (.ref S)) (e3 : m (Str.ofString "comma") = some (.ref CM)) (e4 : m (Str.ofString "colon") = some (.ref CL)) (up : Sub led led2) (hs : Sub news led)
    (hS : (S, lisO #[] nS) ∈ led2) (hC : (CM, lisO #[u1, u2] nc) ∈ led) (hcm : PcsAre led [u1, u2] commaP) (hD : (CL, lisO #[w1, w2] nl) ∈ led) (hcl : PcsAre led [w1, w2] colonP) : inJ a news ps 0 m led2 :=
  ⟨S, [], nS, CM, u1, u2, nc, CL, w1, w2, nl, e1, e2, e3, e4, fun p hp => up p (hs p hp), hS, trivial, up _ hC, hcm.mono up, up _ hD, hcl.mono up⟩
theorem inJ_elim {g h : Heap} {L a : Addr} {news nx : Led} {ps : List (List Pc)} {i : Nat} {m : Str → Option Value} {G : Prop} (j : inJ a news ps i m nx) (F : Fr g L h m)
    (k : ∀ (S CM CL : Addr) (vs : List Value) (c nc nl : Nat) (u1 u2 w1 w2 : Value), Fr g L h (fun y => if y = Str.ofString "thing" then some (.ref a) else if y = Str.ofString "inside" then some (.ref S) else if y = Str.ofString "comma" then some (.ref CM) else if y = Str.ofString "colon" then some (.ref CL) else m y) → Sub news nx → (S, lisO vs.toArray c) ∈ nx →
      PcsAre nx vs (glue (ps.take i)) → (CM, lisO #[u1, u2] nc) ∈ nx → PcsAre nx [u1, u2] commaP → (CL, lisO #[w1, w2] nl) ∈ nx → PcsAre nx [w1, w2] colonP → G) : G := by
  cases j with
  | mk S vs c CM u1 u2 nc CL w1 w2 nl e1 e2 e3 e4 hs hS hvs hCM hcm hCL hcl => exact k S CM CL vs c nc nl u1 u2 w1 w2 (fr_put4 F e1 e2 e3 e4) hs hS hvs hCM hcm hCL hcl
theorem sub_t {x : Addr × Obj} {l : Led} : Sub l (x :: l) := fun _ h => List.mem_cons_of_mem _ h
theorem sub_tt {x y : Addr × Obj} {l : Led} : Sub l (x :: y :: l) := fun _ h => List.mem_cons_of_mem _ (List.mem_cons_of_mem _ h)
theorem up2 {g h : Heap} {L : Addr} {x y : Addr × Obj} {l : Led} (_N : News g L h (x :: y :: l)) : Sub l (x :: y :: l) := sub_tt
theorem up3 {g h : Heap} {L : Addr} {x y z : Addr × Obj} {l : Led} (_N : News g L h (x :: y :: z :: l)) : Sub l (x :: y :: z :: l) := fun p hp => List.mem_cons_of_mem _ (sub_tt p hp)
noncomputable def glueC (acc : List Pc) : List Pc := if acc = [] then [] else acc ++ commaP
/-- the first row of a turn: inside, with a comma if it bears a piece -/
theorem pc_turn {w : World} {A : Around} {g h : Heap} {L a I : Addr} {oI : Obj} {s : Shared} {Q : Flow → Shared → Prop} {E : Value → Shared → Prop} {tk : Nat} {m : Str → Option Value} {news nx : Led} {rest : List Stmt} {v : Value} {ps : List (List Pc)} {i : Nat} {p0 p1 p2 p3 p4 p5 p6 p7 p8 p9 : Pos}
    (_X : (hd.heap_1 w.params).In g) (hu : A.units < cLine) (j : inJ a news ps i m nx) (F : Fr g L h m) (N : News g L h ((I, oI) :: nx)) (hgl : (glue (ps.take i)).length ≤ 500)
    (hq : ∀ (m' : Str → Option Value) h' tk' S CM CL vs c nc nl u1 u2 w1 w2 led, Fr g L h' (fun y => if y = Str.ofString "inside" then some (.ref S) else if y = Str.ofString "item" then some v else if y = Str.ofString "thing" then some (.ref a) else if y = Str.ofString "comma" then some (.ref CM) else if y = Str.ofString "colon" then some (.ref CL) else m' y) →
      News g L h' led → Sub ((I, oI) :: nx) led → Sub news nx → (S, lisO (vs : List Value).toArray c) ∈ led → PcsAre led vs (glueC (glue (ps.take i))) → vs.length ≤ 502 → (CM, lisO #[u1, u2] nc) ∈ led → PcsAre led [u1, u2] commaP → (CL, lisO #[w1, w2] nl) ∈ led → PcsAre led [w1, w2] colonP →
      wpAny (model prg w) A (execs rest (envP L)) Q E { s with heap := h', toks := tk' }) :
    wpAny (model prg w) A (assign (.Name (Str.ofString "item") p0) (envP L) v) (fun _ s₂ => wpAny (model prg w) A (execs (.If (.Compare (.Name (Str.ofString "inside") p1) [.NotEq] [.List [] p2] p3) [.Assign [.Name (Str.ofString "inside") p4] (.BinOp (.Name (Str.ofString "inside") p5) .Add (.Name (Str.ofString "comma") p6) p7) p8] [] p9 :: rest) (envP L)) Q E s₂) E { s with heap := h, toks := tk } := by
  refine inJ_elim j F fun S CM CL vs c nc nl u1 u2 w1 w2 F4 hs hS hvs hCM hcm hCL hcl => ?_
  clear F
  have hvl : vs.length ≤ 500 := Nat.le_trans (Nat.le_of_eq hvs.length) hgl
  cases hE : vs.isEmpty with
  | true =>
    have hv0 : vs = [] := by simpa using hE
    have hg0 : glue (ps.take i) = [] := List.eq_nil_of_length_eq_zero (by rw [← hvs.length, hv0]; rfl)
    k_steps
    rename Fr _ _ _ _ => F9
    rename News _ _ _ _ => N9
    refine' ne_nil ?k1 ?k2 ?k3 ?k4 _ ?k5 ?_
    case k1 => exact N9
    case k5 => exact hE
    case k2 => exact List.mem_cons_of_mem _ (List.mem_cons_of_mem _ hS)
    case k3 => exact List.mem_cons_self
    case k4 => exact hu
    k_steps
    rename Fr _ _ _ _ => F8
    rename News _ _ _ _ => N8
    have up := up2 N8
    rw [hg0] at hq hvs
    exact hq _ _ _ S CM CL vs c nc nl u1 u2 w1 w2 _ (fr_put (fr_put4 F8 rfl rfl rfl rfl) rfl) N8 sub_t hs (up _ hS) (hvs.mono up) (Nat.le_trans hvl (by decide)) (up _ hCM) (hcm.mono up) (up _ hCL) (hcl.mono up)
  | false =>
    have hg0 : glue (ps.take i) ≠ [] := fun e => by
      have h9 := hvs.length
      rw [e] at h9
      have hv0 : vs = [] := List.eq_nil_of_length_eq_zero h9
      rw [hv0] at hE; cases hE
    k_steps
    rename Fr _ _ _ _ => F9
    rename News _ _ _ _ => N9
    refine' ne_nil ?l1 ?l2 ?l3 ?l4 _ ?l5 ?_
    case l1 => exact N9
    case l5 => exact hE
    case l2 => exact List.mem_cons_of_mem _ (List.mem_cons_of_mem _ hS)
    case l3 => exact List.mem_cons_self
    case l4 => exact hu
    k_steps
    rename Fr _ _ _ _ => F8
    rename News _ _ _ _ => N8
    have up := up3 N8
    have h2 : glueC (glue (ps.take i)) = glue (ps.take i) ++ commaP := if_neg hg0
    rw [h2] at hq
    exact hq _ _ _ _ CM CL _ _ nc nl u1 u2 w1 w2 _ (fr_put (fr_put4 F8 rfl rfl rfl rfl) rfl) N8 sub_tt hs List.mem_cons_self ((hvs.mono up).append (hcm.mono up)) (by simp; omega) (up _ hCM) (hcm.mono up) (up _ hCL) (hcl.mono up)
theorem inJ_sub {a : Addr} {news nx : Led} {ps : List (List Pc)} {i : Nat} {m : Str → Option Value} (j : inJ a news ps i m nx) : Sub news nx := by
  cases j with
  | mk _ _ _ _ _ _ _ _ _ _ _ _ _ _ _ hs => exact hs
theorem CallTo.sub {w : World} {nx led : Led} {v : Value} {d : PyData} {dN uN : Nat} (h : CallTo w nx v d dN uN) (hs : ∀ p ∈ nx, p ∈ led) : CallTo w led v d dN uN := fun l hl => h l fun p hp => hl p (hs p hp)
theorem up_t {g h : Heap} {L : Addr} {x : Addr × Obj} {led l : Led} (_N : News g L h (x :: l)) (hs : Sub led l) : Sub led (x :: l) := fun p hp => List.mem_cons_of_mem _ (hs p hp)


/-! _law_pieces: a list -/
theorem pieces_list (w : World) (n : Nat) (IH : PiecesTo w n) (a : Addr) (its : List Value) (c : Nat) (xs : List PyData) (news : Led) (ha : (a, lisO its.toArray c) ∈ news) (hall : HasAll w news its xs) (hd : PyData.depthAll xs ≤ n) (hg : GoodL xs) (hB : (rawOf (pcs (.list xs))).length ≤ 500) :
    Sp w 761 [.ref a] news (4 * n + 14) (50 * n + 200) False (PcsOut news (.list xs)) := by
  intro p loose mean mg mb dp un cn cs a' ccd cl outer A₀ base h₀ L m s Q E B F X N T hk hdp hun hret hrz
  have hGL : (rawOf (glue (pcsL xs))).length ≤ 500 := by
    have e : rawOf (pcs (.list xs)) = [91] ++ (rawOf (glue (pcsL xs)) ++ [93]) := by simp [pcs, rawOf]
    rw [e, List.length_append, List.length_append] at hB; omega
  refine wpAny_call ?_
  k_dflt ktr_enter
  rename_i g₁ L₁ h₁ FG₁ F₁ N₁ B₁ X₁ T₁
  with_reducible refine' pc_start ?a1 ?a2 ?a3 ?a4
  case a1 => exact F₁
  case a2 => exact rfl
  case a3 => exact N₁
  intro m₀ h₂ tk₂ CM CL led u1 u2 w1 w2 nc nl F₂ N₂ hs₂ hCM hcm hCL hcl
  clear F₁ N₁
  k_steps
  refine stop_elim ?_
  (rename News _ _ _ _ => N9)
  (rename Fr g₁ L₁ _ _ => F9)
  refine for_list (l := a) (vs := its) (nn := c) rfl (inJ a news (pcsL xs)) F9 N9 ?hx ?hJl ?h0 ?hgo ?turn ?done
  case hx =>
    intro Q' hq
    k_steps
    exact hq _ _ (by k_asm) (by k_asm)
  case hJl =>
    intro i m' nx j
    exact inJ_sub j _ ha
  case h0 =>
    exact inJ_start rfl rfl rfl rfl (up2 N9) hs₂ mm1 hCM hcm hCL hcl
  case hgo =>
    intro I i v s' Q' E' h q
    exact wpAny_pure q
  case done =>
    intro m₁ nx h tk j F N
    refine inJ_elim j F fun S CM CL vs c nc nl u1 u2 w1 w2 F4 hs hS hvs hCM hcm hCL hcl => ?_
    clear F F9 N9
    have hvl : vs.length ≤ 500 := by
      rw [hvs.length]
      exact Nat.le_trans (count_le (good_foldl _ _ (by simp) (fun l hl => pcsL_good xs hg l (List.mem_of_mem_take hl)))) (Nat.le_trans (glue_len _ _) hGL)
    k_steps
    rw [List.take_of_length_le (by rw [pcsL_len, hall.length]; exact Nat.le_refl _)] at hvs
    exact hret _ _ _ _ (by k_asm) (by k_asm) (pcs_wrap 91 93 mm1 mm6 mm3 (fun p hp => mm6t hp) hs (hvs.mono fun p hp => mm6t hp) (by decide +kernel) (by decide +kernel) (by simp [pcs]))
  case turn =>
    intro i v m₁ nx I oI h tk hv j F N hne hoI R hR
    obtain ⟨d, hdi, hvd⟩ := hall.get hv
    have hpi := pcsL_get hdi
    have hgi := goodL_get hg hdi
    have hri : (rawOf (pcs d)).length ≤ 500 := Nat.le_trans (item_len hpi) hGL
    have hci := Nat.le_trans (count_le (pcs_good d hgi)) hri
    have hs0 := inJ_sub j
    have hcall : CallTo w nx v d (4 * n + 10) (50 * n + 150) := fun led hl => IH d (Nat.le_trans (depthL_get hdi) hd) hgi hri v led ((hvd.sub hs0).sub hl)
    have hgl : (glue ((pcsL xs).take i)).length ≤ 500 := Nat.le_trans (count_le (good_foldl _ _ (by simp) (fun l hl => pcsL_good xs hg l (List.mem_of_mem_take hl)))) (Nat.le_trans (glue_len _ i) hGL)
    have hnI : ∀ p ∈ news, @Ne Nat p.1 I := fun p hp => hne p (hs0 p hp)
    with_reducible refine' pc_turn ?t1 ?t2 ?t3 ?t4 ?t5 ?t6 ?t7
    case t1 => exact X₁
    case t2 => ktr_units
    case t3 => exact j
    case t4 => exact F
    case t5 => exact N
    case t6 => exact hgl
    clear j F N F9 N9
    intro m' h' tk' S CM CL vs c nc nl u1 u2 w1 w2 led' F' N' up hs hS hvs hvl hCM hcm hCL hcl
    replace hcall := hcall.sub (fun p hp => up p (List.mem_cons_of_mem _ hp))
    k_steps
    (rename Fr g₁ L₁ _ _ => F8)
    (rename News g₁ L₁ _ _ => N8)
    (rename Sub led' _ => hs8)
    (rename PcsAre _ _ (pcs d) => hp8)
    have up8 := up_t N8 hs8
    refine hR _ _ <| in_turn F8 N8 (up8 _ (up _ mm1)) hoI hnI rfl rfl rfl rfl (fun p hp => up8 p (up p (List.mem_cons_of_mem _ (hs p hp)))) mm1 ?_ (up8 _ hCM) (hcm.mono up8) (up8 _ hCL) (hcl.mono up8)
    rw [glue_step hpi]
    exact (hvs.mono up8).append (hp8.mono sub_t)


/-! _law_pieces: a tuple -/
theorem pieces_tup (w : World) (n : Nat) (IH : PiecesTo w n) (a : Addr) (its : List Value) (c : Nat) (xs : List PyData) (news : Led) (ha : (a, tupO its.toArray c) ∈ news) (hall : HasAll w news its xs) (hd : PyData.depthAll xs ≤ n) (hg : GoodL xs) (hB : (rawOf (pcs (.tuple xs))).length ≤ 500) :
    Sp w 761 [.ref a] news (4 * n + 14) (50 * n + 200) False (PcsOut news (.tuple xs)) := by
  intro p loose mean mg mb dp un cn cs a' ccd cl outer A₀ base h₀ L m s Q E B F X N T hk hdp hun hret hrz
  have hGL : (rawOf (glue (pcsL xs))).length ≤ 500 := by
    have e : rawOf (pcs (.tuple xs)) = [40] ++ ((rawOf (glue (pcsL xs)) ++ rawOf (if xs.length = 1 then [bareP [44]] else [])) ++ [41]) := by
      simp only [pcs, rawOf, List.flatMap_cons, List.flatMap_append, List.flatMap_nil, List.append_nil]
    rw [e, List.length_append, List.length_append, List.length_append] at hB; omega
  refine wpAny_call ?_
  k_dflt ktr_enter
  rename_i g₁ L₁ h₁ FG₁ F₁ N₁ B₁ X₁ T₁
  with_reducible refine' pc_start ?a1 ?a2 ?a3 ?a4
  case a1 => exact F₁
  case a2 => exact rfl
  case a3 => exact N₁
  intro m₀ h₂ tk₂ CM CL led u1 u2 w1 w2 nc nl F₂ N₂ hs₂ hCM hcm hCL hcl
  clear F₁ N₁
  k_steps
  refine stop_elim ?_
  (rename News _ _ _ _ => N9)
  (rename Fr g₁ L₁ _ _ => F9)
  refine for_tup (l := a) (vs := its) (nn := c) rfl (inJ a news (pcsL xs)) F9 N9 ?hx ?hJl ?h0 ?hgo ?turn ?done
  case hx =>
    intro Q' hq
    k_steps
    exact hq _ _ (by k_asm) (by k_asm)
  case hJl =>
    intro i m' nx j
    exact inJ_sub j _ ha
  case h0 =>
    exact inJ_start rfl rfl rfl rfl (up2 N9) hs₂ mm1 hCM hcm hCL hcl
  case hgo =>
    intro I i v s' Q' E' h q
    exact wpAny_pure q
  case done =>
    intro m₁ nx h tk j F N
    refine inJ_elim j F fun S CM CL vs c nc nl u1 u2 w1 w2 F4 hs hS hvs hCM hcm hCL hcl => ?_
    clear F F9 N9
    have hil : its.length ≤ 5000 := by rw [hall.length]; exact Nat.le_trans (items_le hg) (by omega)
    have hvl : vs.length ≤ 500 := by
      rw [hvs.length]
      exact Nat.le_trans (count_le (good_foldl _ _ (by simp) (fun l hl => pcsL_good xs hg l (List.mem_of_mem_take hl)))) (Nat.le_trans (glue_len _ _) hGL)
    have hvs' := hvs
    rw [List.take_of_length_le (by rw [pcsL_len, hall.length]; exact Nat.le_refl _)] at hvs'
    k_steps
    · have h1 : xs.length = 1 := by rw [← hall.length]; omega
      exact hret _ _ _ _ (by k_asm) (by k_asm) (pcs_wrap 40 41 mm1 mm6 mm3 (fun p hp => mm8t hp) hs (PcsAre.append (us := [u1]) (qs := [bareP [44]]) (hvs'.mono fun p hp => mm8t hp) ⟨hcm.1.mono fun p hp => mm8t hp, trivial⟩) (by decide +kernel) (by decide +kernel) (by simp [pcs, h1]))
    · have h1 : xs.length ≠ 1 := by rw [← hall.length]; omega
      exact hret _ _ _ _ (by k_asm) (by k_asm) (pcs_wrap 40 41 mm1 mm6 mm3 (fun p hp => mm6t hp) hs (hvs'.mono fun p hp => mm6t hp) (by decide +kernel) (by decide +kernel) (by simp [pcs, h1]))
  case turn =>
    intro i v m₁ nx I oI h tk hv j F N hne hoI R hR
    obtain ⟨d, hdi, hvd⟩ := hall.get hv
    have hpi := pcsL_get hdi
    have hgi := goodL_get hg hdi
    have hri : (rawOf (pcs d)).length ≤ 500 := Nat.le_trans (item_len hpi) hGL
    have hci := Nat.le_trans (count_le (pcs_good d hgi)) hri
    have hs0 := inJ_sub j
    have hcall : CallTo w nx v d (4 * n + 10) (50 * n + 150) := fun led hl => IH d (Nat.le_trans (depthL_get hdi) hd) hgi hri v led ((hvd.sub hs0).sub hl)
    have hgl : (glue ((pcsL xs).take i)).length ≤ 500 := Nat.le_trans (count_le (good_foldl _ _ (by simp) (fun l hl => pcsL_good xs hg l (List.mem_of_mem_take hl)))) (Nat.le_trans (glue_len _ i) hGL)
    have hnI : ∀ p ∈ news, @Ne Nat p.1 I := fun p hp => hne p (hs0 p hp)
    with_reducible refine' pc_turn ?t1 ?t2 ?t3 ?t4 ?t5 ?t6 ?t7
    case t1 => exact X₁
    case t2 => ktr_units
    case t3 => exact j
    case t4 => exact F
    case t5 => exact N
    case t6 => exact hgl
    clear j F N F9 N9
    intro m' h' tk' S CM CL vs c nc nl u1 u2 w1 w2 led' F' N' up hs hS hvs hvl hCM hcm hCL hcl
    replace hcall := hcall.sub (fun p hp => up p (List.mem_cons_of_mem _ hp))
    k_steps
    (rename Fr g₁ L₁ _ _ => F8)
    (rename News g₁ L₁ _ _ => N8)
    (rename Sub led' _ => hs8)
    (rename PcsAre _ _ (pcs d) => hp8)
    have up8 := up_t N8 hs8
    refine hR _ _ <| in_turn F8 N8 (up8 _ (up _ mm1)) hoI hnI rfl rfl rfl rfl (fun p hp => up8 p (up p (List.mem_cons_of_mem _ (hs p hp)))) mm1 ?_ (up8 _ hCM) (hcm.mono up8) (up8 _ hCL) (hcl.mono up8)
    rw [glue_step hpi]
    exact (hvs.mono up8).append (hp8.mono sub_t)


/-! _law_pieces: a table -/
theorem pcsK_get : ∀ {xs : List (PyData × PyData)} {i : Nat} {k d : PyData}, xs[i]? = some (k, d) → (pcsK xs)[i]? = some (pcs k ++ colonP ++ pcs d)
  | [], _, _, _, h => by simp at h
  | x :: r, 0, k, d, h => by simp at h; subst h; simp [pcsK]
  | (k', d') :: r, i + 1, k, d, h => by simp only [pcsK, List.getElem?_cons_succ]; exact pcsK_get (by simpa using h)
theorem pcsK_len : ∀ xs : List (PyData × PyData), (pcsK xs).length = xs.length
  | [] => rfl
  | (k, d) :: r => by simp [pcsK, pcsK_len r]
theorem goodK_get : ∀ {xs : List (PyData × PyData)}, GoodK xs → ∀ {i : Nat} {k d : PyData}, xs[i]? = some (k, d) → GoodD k ∧ GoodD d
  | [], _, _, _, _, h => by simp at h
  | (k', d') :: r, hg, 0, k, d, h => by
    simp at h
    obtain ⟨rfl, rfl⟩ := h
    have hg : GoodD k' ∧ GoodD d' ∧ GoodK r := by simpa only [GoodK] using hg
    exact ⟨hg.1, hg.2.1⟩
  | (k', d') :: r, hg, i + 1, k, d, h => goodK_get (show GoodD k' ∧ GoodD d' ∧ GoodK r by simpa only [GoodK] using hg).2.2 (by simpa using h)
theorem depthK_get : ∀ {xs : List (PyData × PyData)} {i : Nat} {k d : PyData}, xs[i]? = some (k, d) → k.depth ≤ PyData.depthKv xs ∧ d.depth ≤ PyData.depthKv xs
  | [], _, _, _, h => by simp at h
  | (k', d') :: r, 0, k, d, h => by
    simp at h
    obtain ⟨rfl, rfl⟩ := h
    simp only [PyData.depthKv]
    exact ⟨Nat.le_trans (Nat.le_max_left _ _) (Nat.le_max_left _ _), Nat.le_trans (Nat.le_max_right _ _) (Nat.le_max_left _ _)⟩
  | (k', d') :: r, i + 1, k, d, h => by
    have := depthK_get (xs := r) (i := i) (by simpa using h)
    simp only [PyData.depthKv]
    exact ⟨Nat.le_trans this.1 (Nat.le_max_right _ _), Nat.le_trans this.2 (Nat.le_max_right _ _)⟩
theorem nodup_at {K V : Type} [DecidableEq K] : ∀ {kvs : List (K × V)} {i : Nat} {k : K} {x : V}, (kvs.map (·.1)).Nodup → kvs[i]? = some (k, x) → (kvs.find? fun kv => kv.1 = k).map (·.2) = some x
  | [], _, _, _, _, h => by simp at h
  | (k', x') :: r, 0, k, x, _, h => by
    simp at h
    obtain ⟨rfl, rfl⟩ := h
    simp
  | (k', x') :: r, i + 1, k, x, hn, h => by
    rw [List.map_cons] at hn
    have hn' := List.nodup_cons.mp hn
    have hm : k ∈ r.map (·.1) := List.mem_map_of_mem (f := (·.1)) (List.mem_of_getElem? (by simpa using h : r[i]? = some (k, x)))
    have hne : k' ≠ k := fun e => hn'.1 (e ▸ hm)
    rw [List.find?_cons_of_neg (by simpa using hne)]
    exact nodup_at hn'.2 (by simpa using h)
theorem up_all {h₀ h : Heap} {L : Addr} {led nx : Led} (_N : News h₀ L h led) (hi : Sub nx led) : Sub nx led := hi
theorem sp_le {w : World} {f : Addr} {args : List Value} {news : Led} {dN uN dN' uN' : Nat} {rz : Prop} {Post : Value → Led → Prop} (S : Sp w f args news dN uN rz Post) (h1 : dN ≤ dN') (h2 : uN ≤ uN') : Sp w f args news dN' uN' rz Post := by
  intro p loose mean mg mb dp un cn cs a ccd cl outer A₀ base h₀ L m s Q E B F X N T hk hdp hun hret hrz
  exact S p loose mean mg mb dp un cn cs a ccd cl outer A₀ base h₀ L m s Q E B F X N T hk (by omega) (by omega) hret hrz
section
variable {w : World} {A : Around} {E : Value → Shared → Prop} {s : Shared} {h₀ : Heap} {L : Addr} {news : Led} {Q : Value → Shared → Prop}
/-- thing[item] -/
theorem tab_item {value slice : PySem.Expr} {d : Addr} {o : Obj} {kvs : List (MK × Value)} {k : MK} {key v : Value} (N : News h₀ L s.heap news) (hp : (d, o) ∈ news) (hd : o.IsDictOf (mixKind w) kvs) (hkey : (mixKind w).is k key = true) (hl : valueAt kvs k = some v) (h : Q v { s with toks := s.toks + 1 })
    (hs : subscripted slice false (.ref d) key = operate [.ref d, key] (getItem (.ref d) key) := by with_unfolding_all rfl) (hg : ∀ r, letTemporaryGo value (.ref d) r = pure () := by intro _; with_unfolding_all rfl) :
    wpAny (model prg w) A (subscriptTail value slice (.ref d) key) Q E s := kda_item N hp hd hkey hl h hs hg
end
theorem kw22 : True := by
  k_with "subscriptTail" => (k_here; (with_reducible show wpAny _ _ (subscriptTail _ _ (Value.ref _) _) _ _ _); k_dflt (refine' tab_item ?k1 ?k2 ?k3 ?k4 ?k5 ?_ ?k6 ?k7; (case k1 => k_asm); (case k3 => with_reducible assumption); (case k4 => with_reducible assumption); (case k5 => with_reducible assumption); (case k2 => k_mem); (case k6 => with_unfolding_all rfl); (case k7 => (intro _; with_unfolding_all rfl)); k_whole))
  trivial
theorem pieces_dict (w : World) (n : Nat) (IH : PiecesTo w n) (a : Addr) (o : Obj) (kvs : List (MK × Value)) (xs : List (PyData × PyData)) (news : Led) (ha : (a, o) ∈ news) (hlo : @LT.lt Nat _ 1 a) (hdo : o.IsDictOf (mixKind w) kvs) (hall : HasKv w news kvs xs) (hd : PyData.depthKv xs ≤ n) (hg : GoodK xs) (hB : (rawOf (pcs (.dict xs))).length ≤ 500) :
    Sp w 761 [.ref a] news (4 * n + 14) (50 * n + 200) False (PcsOut news (.dict xs)) := by
  intro p loose mean mg mb dp un cn cs a' ccd cl outer A₀ base h₀ L m s Q E B F X N T hk hdp hun hret hrz
  obtain ⟨oc, od, odt, osl⟩ := o
  obtain ⟨es, ep, ⟨hx1, hx2, hx3⟩, hx4, hx5⟩ := id hdo
  dsimp only at hx1 hx2 hx3 hx4
  subst hx1
  subst hx2
  subst hx3
  subst hx4
  clear hx5
  have hGL : (rawOf (glue (pcsK xs))).length ≤ 500 := by
    have e : rawOf (pcs (.dict xs)) = [123] ++ (rawOf (glue (pcsK xs)) ++ [125]) := by simp [pcs, rawOf]
    rw [e, List.length_append, List.length_append] at hB; omega
  refine wpAny_call ?_
  k_dflt ktr_enter
  rename_i g₁ L₁ h₁ FG₁ F₁ N₁ B₁ X₁ T₁
  with_reducible refine' pc_start ?a1 ?a2 ?a3 ?a4
  case a1 => exact F₁
  case a2 => exact rfl
  case a3 => exact N₁
  intro m₀ h₂ tk₂ CM CL led u1 u2 w1 w2 nc nl F₂ N₂ hs₂ hCM hcm hCL hcl
  clear F₁ N₁
  k_steps
  refine stop_elim ?_
  (rename News _ _ _ _ => N9)
  (rename Fr g₁ L₁ _ _ => F9)
  refine for_dict (d := a) hdo (beq_eq_false_iff_ne.mpr (Nat.ne_of_gt hlo)) rfl (inJ a news (pcsK xs)) F9 N9 ?hx ?hJl ?h0 ?hgo ?turn ?done
  case hx =>
    intro Q' hq
    k_steps
    exact hq _ _ (by k_asm) (by k_asm)
  case hJl =>
    intro i m' nx j
    exact inJ_sub j _ ha
  case h0 =>
    exact inJ_start rfl rfl rfl rfl (up2 N9) hs₂ mm1 hCM hcm hCL hcl
  case hgo =>
    intro I i n ep v s' Q' E' h q
    exact wpAny_pure q
  case done =>
    intro m₁ nx h tk j F N
    refine inJ_elim j F fun S CM CL vs c nc nl u1 u2 w1 w2 F4 hs hS hvs hCM hcm hCL hcl => ?_
    clear F F9 N9
    have hvl : vs.length ≤ 500 := by
      rw [hvs.length]
      exact Nat.le_trans (count_le (good_foldl _ _ (by simp) (fun l hl => pcsK_good xs hg l (List.mem_of_mem_take hl)))) (Nat.le_trans (glue_len _ _) hGL)
    k_steps
    rw [List.take_of_length_le (by rw [pcsK_len, hall.length]; exact Nat.le_refl _)] at hvs
    exact hret _ _ _ _ (by k_asm) (by k_asm) (pcs_wrap 123 125 mm1 mm6 mm3 (fun p hp => mm6t hp) hs (hvs.mono fun p hp => mm6t hp) (by decide +kernel) (by decide +kernel) (by simp [pcs]))
  case turn =>
    intro i v k x m₁ nx I oI h tk hkx hkv j F N hne hoI R hR
    obtain ⟨d, hdi, hvd⟩ := hall.get hkx
    have hpi := pcsK_get hdi
    obtain ⟨hgk, hgi⟩ := goodK_get hg hdi
    obtain ⟨hdk, hdd⟩ := depthK_get hdi
    have hall9 := item_len hpi
    rw [raw_app, raw_app, List.length_append, List.length_append] at hall9
    have hrk : (rawOf (pcs (encK k))).length ≤ 500 := by omega
    have hri : (rawOf (pcs d)).length ≤ 500 := by omega
    have hck := Nat.le_trans (count_le (pcs_good _ hgk)) hrk
    have hci := Nat.le_trans (count_le (pcs_good d hgi)) hri
    have hs0 := inJ_sub j
    have hcallk : CallTo w nx v (encK k) (4 * n + 10) (50 * n + 150) := fun led hl => IH _ (Nat.le_trans hdk hd) hgk hrk v led (has_enc hkv)
    have hcallx : CallTo w nx x d (4 * n + 10) (50 * n + 150) := fun led hl => IH d (Nat.le_trans hdd hd) hgi hri x led ((hvd.sub hs0).sub hl)
    have hval : valueAt kvs k = some x := by
      obtain ⟨es, ep, _, _, _, _, hnd⟩ := hdo
      exact nodup_at hnd hkx
    have hgl : (glue ((pcsK xs).take i)).length ≤ 500 := Nat.le_trans (count_le (good_foldl _ _ (by simp) (fun l hl => pcsK_good xs hg l (List.mem_of_mem_take hl)))) (Nat.le_trans (glue_len _ i) hGL)
    have hnI : ∀ p ∈ news, @Ne Nat p.1 I := fun p hp => hne p (hs0 p hp)
    with_reducible refine' pc_turn ?t1 ?t2 ?t3 ?t4 ?t5 ?t6 ?t7
    case t1 => exact X₁
    case t2 => ktr_units
    case t3 => exact j
    case t4 => exact F
    case t5 => exact N
    case t6 => exact hgl
    clear j F N F9 N9
    intro m' h' tk' S CM CL vs c nc nl u1 u2 w1 w2 led' F' N' up hs hS hvs hvl hCM hcm hCL hcl
    replace hcallk := hcallk.sub (fun p hp => up p (List.mem_cons_of_mem _ hp))
    replace hcallx := hcallx.sub (fun p hp => up p (List.mem_cons_of_mem _ hp))
    have ha' := up _ (List.mem_cons_of_mem _ (hs _ ha))
    k_steps
    (rename Fr g₁ L₁ _ _ => F8)
    (rename News g₁ L₁ _ _ => N8)
    (rename PcsAre _ _ (pcs d) => hpx)
    (rename PcsAre _ _ (pcs (encK k)) => hpk)
    have up8 := up_all N8 (fun p (hp : p ∈ led') => by k_mem)
    refine hR _ _ <| in_turn F8 N8 (up8 _ (up _ mm1)) hoI hnI rfl rfl rfl rfl (fun p hp => up8 p (up p (List.mem_cons_of_mem _ (hs p hp)))) mm1 ?_ (up8 _ hCM) (hcm.mono up8) (up8 _ hCL) (hcl.mono up8)
    have e9 : stepP (glue ((pcsK xs).take i)) (pcs (encK k) ++ colonP ++ pcs d) = glueC (glue ((pcsK xs).take i)) ++ pcs (encK k) ++ colonP ++ pcs d := by
      unfold stepP glueC
      rw [← List.append_assoc, ← List.append_assoc]
    rw [glue_step hpi, e9]
    exact (((hvs.mono up8).append (hpk.mono (fun p hp => by k_mem))).append (hcl.mono up8)).append (hpx.mono sub_t)

/-- _law_pieces, of every datum -/
theorem flat_up {w : World} {v : Value} {d : PyData} {news : Led} (n : Nat) (hv : Has w news v d) (hg : GoodD d) (hf : isFlat d = true) (hB : (rawOf (pcs d)).length ≤ 500) : Sp w 761 [v] news (4 * n + 10) (50 * n + 150) False (PcsOut news d) :=
  sp_le (pieces_flat w v d news hv hg hf hB) (Nat.le_trans (by decide) (Nat.le_add_left 10 _)) (Nat.le_trans (by decide) (Nat.le_add_left 150 _))
theorem deep_up {w : World} {v : Value} {d : PyData} {news : Led} {n : Nat} (S : Sp w 761 [v] news (4 * n + 14) (50 * n + 200) False (PcsOut news d)) : Sp w 761 [v] news (4 * (n + 1) + 10) (50 * (n + 1) + 150) False (PcsOut news d) :=
  sp_le S (by omega) (by omega)
theorem pieces_all (w : World) : ∀ n, PiecesTo w n := by
  intro n
  induction n with
  | zero =>
    intro d hd hg hB v news hv
    cases hv with
    | none => exact flat_up 0 .none hg rfl hB
    | bool b => exact flat_up 0 (.bool b) hg rfl hB
    | int i t => exact flat_up 0 (.int i t) hg rfl hB
    | str x t => exact flat_up 0 (.str x t) hg rfl hB
    | list _ _ _ => exact absurd (show _ + 1 ≤ 0 by simpa only [PyData.depth] using hd) (Nat.not_succ_le_zero _)
    | tuple _ _ => exact absurd (show _ + 1 ≤ 0 by simpa only [PyData.depth] using hd) (Nat.not_succ_le_zero _)
    | dict _ _ _ _ => exact absurd (show _ + 1 ≤ 0 by simpa only [PyData.depth] using hd) (Nat.not_succ_le_zero _)
  | succ n ih =>
    intro d hd hg hB v news hv
    cases hv with
    | none => exact flat_up _ .none hg rfl hB
    | bool b => exact flat_up _ (.bool b) hg rfl hB
    | int i t => exact flat_up _ (.int i t) hg rfl hB
    | str x t => exact flat_up _ (.str x t) hg rfl hB
    | list h1 h2 h3 => exact deep_up (pieces_list w n ih _ _ _ _ news h1 h3 (Nat.le_of_succ_le_succ (by simpa only [PyData.depth] using hd)) (by simpa only [GoodD] using hg) hB)
    | tuple h1 h3 => exact deep_up (pieces_tup w n ih _ _ _ _ news h1 h3 (Nat.le_of_succ_le_succ (by simpa only [PyData.depth] using hd)) (by simpa only [GoodD] using hg) hB)
    | dict h1 h2 h3 h4 => exact deep_up (pieces_dict w n ih _ _ _ _ news h1 h2 h3 h4 (Nat.le_of_succ_le_succ (by simpa only [PyData.depth] using hd)) (by simpa only [GoodD] using hg) hB)


/-! dict(zip(keys, items)) -/
theorem zip_entry_getattribute : entryFor table "zip.__getattribute__" = some Builtin.«object.__getattribute__» :=
  entryFor_alias (id' := "object.__getattribute__") (by kernel_rfl) (by decide +kernel) (by decide +kernel) (by kernel_rfl)
theorem zip_getattr_none : typeLookup (.type "zip") "__getattr__" = pure none := by rw [typeLookup_type, builtinLookup_eq_fast]; kernel_rfl
theorem zip_no_keys : typeLookup (.type "zip") "keys" = pure none := by rw [typeLookup_type, builtinLookup_eq_fast]; kernel_rfl
theorem plain_dict_loop : plainId "dict.update.loop" = true := by decide +kernel
theorem entry_dict_loop : entryFor table "dict.update.loop" = some Builtin.«dict.update.loop» := entryFor_of_tree (by kernel_rfl)
theorem meets_no_keys (a : Addr) (vs : Array Value) (sl : Array (Option Value)) (u : Tok) :
    Meets (Builtin.«object.__getattribute__» ⟨[.ref a, .str (Str.ofString "keys") u], []⟩) (fun A R s => s.heap.get? a = some { cls := .type "zip", dict := none, data := .fields vs, slots := sl } ∧ raisesAttr (.ref a) (Str.ofString "keys") A R s) :=
  Meets.of_wp fun prog w A R s hs => by
    obtain ⟨hp, g, d, tk, os⟩ := s
    obtain ⟨hx, hs⟩ := hs
    have hT : (⟨hp, g, d, tk, os⟩ : Shared).TypeIs (.ref a) "zip" := ⟨_, hx, rfl⟩
    have hmiss := zip_no_keys
    have hname : (["__module__", "__name__", "__qualname__", "__doc__", "__annotations__"] : List Str).contains (Str.ofString "keys") = false := by decide +kernel
    unfold Builtin.«object.__getattribute__»
    repeat (any_goals (first | assumption | wp_step))
    try simp only [hname, Bool.false_eq_true, if_false]
    repeat (any_goals (first | assumption | wp_step))
    exact wpAny_raiseAttrError hs.1 hs.2 (attrMsg_fits (by decide +kernel) (by decide +kernel))
section
variable {prog : Program} {w : World} {A : Around} {E : Value → Shared → Prop} {s : Shared}
theorem no_keys {a : Addr} {vs : Array Value} {sl : Array (Option Value)} {Q : Option Value → Shared → Prop} (hx : s.heap.get? a = some { cls := .type "zip", dict := none, data := .fields vs, slots := sl }) (hA : A.handled = none)
    (h : ∀ h' tk, (∀ b o, s.heap.get? b = some o → h'.get? b = some o) → Q none { s with heap := h', toks := tk }) : wpAny (model prog w) A (getAttr? (.ref a) (Str.ofString "keys")) Q E s := by
  obtain ⟨hp, g, d, tk, os⟩ := s
  have hT : ∀ tk', (⟨hp, g, d, tk', os⟩ : Shared).TypeIs (.ref a) "zip" := fun _ => ⟨_, hx, rfl⟩
  have f1 := sub_AttributeError
  have f3 := PySem.F.slot_zip_getattribute.lookup
  have f4 := PySem.F.slot_zip_getattribute.bind (.ref a)
  have f5 := zip_getattr_none
  unfold getAttr? getAttrBy? getAttrBy
  repeat (any_goals (first | assumption | exact hT _ | ((with_reducible show wpAny _ _ (call (Value.builtin "zip.__getattribute__") _ _) _ _ _); refine call_meets PySem.F.slot_zip_getattribute (hT _) zip_entry_getattribute (PySem.F.args_zip_getattribute_2 _ _) (meets_no_keys a vs sl _) ⟨hx, hA, fun h' tk' e hx' => ?_⟩) | wp_step))
  obtain ⟨t', u', he⟩ := hx'.there
  show wpAny _ _ (getattributeRaised _ _ _ _ _ _ _) _ _ _
  unfold getattributeRaised
  repeat (any_goals (first | assumption | wp_step))
  exact h _ _ fun b o e => hx'.keeps b o e
end


/-! zip's turns, the tuple handed out still held -/
noncomputable abbrev IsZipS (h : Heap) (z TI TO T : Addr) (b : Bool) : Prop :=
  h.get? z = some { cls := .type "zip", dict := none, data := .fields #[rawInt (T : Int), .bool b, .bool false, .ref TI, .ref TO], slots := #[] }
section
variable {prog : Program} {w : World} {A : Around} {E : Value → Shared → Prop} {s : Shared}
theorem owned_held {z TI TO T : Addr} {b : Bool} {oT : Obj} {Q : Bool → Shared → Prop} (hz : IsZipS s.heap z TI TO T b) (hT : s.heap.get? T = some oT)
    (h : ∀ h', IsZipS h' z TI TO T true → Heap.SameBut z s.heap h' → Q false { s with heap := h' }) : wpAny (model prog w) A (Builtin.SmallTypes.ownedTupleIsFree (.ref z)) Q E s := by
  unfold Builtin.SmallTypes.ownedTupleIsFree
  refine wpAny_bind (wpAny_field hz rfl (x := rawInt (T : Int)) rfl ?_)
  show wpAny _ _ (loadIfAlive ((T : Int).toNat) >>= _) _ _ _
  rw [Int.toNat_natCast]
  refine wpAny_bind (kdx_alive hT ?_)
  simp only [Option.isNone_some, Bool.false_eq_true, if_false]
  refine wpAny_bind (wpAny_field hz rfl (x := .bool b) rfl ?_)
  cases b with
  | true =>
    rw [if_neg (show ¬ ((Value.bool true != Value.bool true) = true) from Bool.false_ne_true)]
    exact wpAny_pure (h s.heap hz (Heap.SameBut.refl _ _))
  | false =>
    rw [if_pos (show (Value.bool false != Value.bool true) = true from rfl)]
    refine wpAny_bind (wpAny_setField_rec hz (by simp) fun h₃ he₃ hs₃ => ?_)
    exact wpAny_pure (h h₃ he₃ hs₃)
theorem zip_slow_item {z TI TO i1 i2 l1 l2 T : Addr} {b : Bool} {oT : Obj} {k1 k2 : Nat} {xs ys : Array Value} {x y : Value} {Q : Value → Shared → Prop} (D : ZipApart z TI TO i1 i2 l1 l2)
    (hz : IsZipS s.heap z TI TO T b) (hT : s.heap.get? T = some oT) (hTI : IsPair s.heap TI (.ref i1) (.ref i2))
    (h1 : s.heap.IsListIter i1 l1 k1) (h2 : s.heap.IsListIter i2 l2 k2) (hl1 : s.heap.IsList l1 xs) (hl2 : s.heap.IsList l2 ys) (hx : xs[k1]? = some x) (hy : ys[k2]? = some y)
    (hQ : ∀ h', IsZipS h' z TI TO T true → h'.IsListIter i1 l1 (k1 + 1) → h'.IsListIter i2 l2 (k2 + 1) → IsPair h' s.heap.objs.size x y →
      (∀ c o, c ≠ z → c ≠ i1 → c ≠ i2 → s.heap.get? c = some o → h'.get? c = some o) → Q (.ref s.heap.objs.size) { s with heap := h' }) :
    wpAny (model prog w) A (Builtin.«zip.__next__» ⟨[.ref z], []⟩) (fun fin s' => ∃ v, fin = .done (.ret v) ∧ Q v s') E s := by
  show wpAny _ _ (field (.ref z) 2 >>= _) _ _ _
  refine wpAny_bind (wpAny_field hz rfl (x := .bool false) rfl ?_)
  show wpAny _ _ (field (.ref z) 3 >>= _) _ _ _
  refine wpAny_bind (wpAny_field hz rfl (x := .ref TI) rfl ?_)
  refine wpAny_bind (wpAny_seqItems hTI rfl ?_)
  show wpAny _ _ (Builtin.SmallTypes.ownedTupleIsFree (.ref z) >>= _) _ _ _
  refine wpAny_bind (owned_held hz hT fun h₁ hz₁ hs₁ => ?_)
  simp only [Bool.false_eq_true, if_false]
  refine wpAny_bind ?_
  simp only [List.forIn_toArray, List.forIn_cons, List.forIn_nil]
  refine wpAny_bind (wpAny_bind (wpAny_holding ?_))
  show wpAny _ _ (Builtin.SmallTypes.nextOf (.ref i1) >>= _) _ _ _
  refine wpAny_bind (wpAny_nextOf_list_item (h1.extBut hs₁.extBut D.i1z) (hl1.extBut hs₁.extBut D.l1z) hx fun h₂ h1₂ hs₂ => wpAny_pure ?_)
  refine wpAny_pure ?_
  refine wpAny_bind (wpAny_bind (wpAny_holding ?_))
  show wpAny _ _ (Builtin.SmallTypes.nextOf (.ref i2) >>= _) _ _ _
  refine wpAny_bind (wpAny_nextOf_list_item ((h2.extBut hs₁.extBut D.i2z).extBut hs₂.extBut D.i12.symm) ((hl2.extBut hs₁.extBut D.l2z).extBut hs₂.extBut D.l2i1) hy fun h₃ h2₃ hs₃ => wpAny_pure ?_)
  refine wpAny_pure ?_
  refine wpAny_pure ?_
  refine wpAny_bind (wpAny_newTuple (hsz := (show 2 ≤ sizeLine by decide)) ?_)
  have hsz : h₃.objs.size = s.heap.objs.size := by rw [hs₃.1, hs₂.1, hs₁.1]
  have keep : ∀ c o, c ≠ z → c ≠ i1 → c ≠ i2 → s.heap.get? c = some o → h₃.get? c = some o := fun c o c1 c3 c4 e =>
    hs₃.extBut _ _ c4 (hs₂.extBut _ _ c3 (hs₁.extBut _ _ c1 e))
  have hz₃ : IsZipS h₃ z TI TO T true := hs₃.extBut _ _ D.i2z.symm (hs₂.extBut _ _ D.i1z.symm hz₁)
  refine wpAny_pure ⟨_, rfl, ?_⟩
  show Q (.ref h₃.objs.size) _
  have hp : IsPair (h₃.push { cls := .type "tuple", data := .seq #[x, y] }) h₃.objs.size x y := Heap.get?_push_size _ rfl
  rw [hsz] at hp ⊢
  exact hQ _ (Heap.get?_push_of_some _ hz₃) ((h1₂.extBut hs₃.extBut D.i12).at fun o e => Heap.get?_push_of_some _ e) (h2₃.at fun o e => Heap.get?_push_of_some _ e) hp fun c o c1 c3 c4 e => Heap.get?_push_of_some _ (keep c o c1 c3 c4 e)
theorem zip_slow_end {z TI TO i1 i2 l1 l2 T : Addr} {b : Bool} {oT : Obj} {k1 k2 : Nat} {xs ys : Array Value} {Q : Fin → Shared → Prop} (hh : A.handled = none) (D : ZipApart z TI TO i1 i2 l1 l2)
    (hz : IsZipS s.heap z TI TO T b) (hT : s.heap.get? T = some oT) (hTI : IsPair s.heap TI (.ref i1) (.ref i2))
    (h1 : s.heap.IsListIter i1 l1 k1) (h2 : s.heap.IsListIter i2 l2 k2) (hl1 : s.heap.IsList l1 xs) (hl2 : s.heap.IsList l2 ys) (hend : xs[k1]? = none ∨ ys[k2]? = none)
    (hE : ∀ h' e, (∀ c o, c ≠ z → c ≠ TO → c ≠ i1 → c ≠ i2 → s.heap.get? c = some o → h'.get? c = some o) → (∃ o, h'.get? e = some o ∧ o.cls = .type "StopIteration") → E (.ref e) { s with heap := h' }) :
    wpAny (model prog w) A (Builtin.«zip.__next__» ⟨[.ref z], []⟩) Q E s := by
  show wpAny _ _ (field (.ref z) 2 >>= _) _ _ _
  refine wpAny_bind (wpAny_field hz rfl (x := .bool false) rfl ?_)
  show wpAny _ _ (field (.ref z) 3 >>= _) _ _ _
  refine wpAny_bind (wpAny_field hz rfl (x := .ref TI) rfl ?_)
  refine wpAny_bind (wpAny_seqItems hTI rfl ?_)
  show wpAny _ _ (Builtin.SmallTypes.ownedTupleIsFree (.ref z) >>= _) _ _ _
  refine wpAny_bind (owned_held hz hT fun h₁ hz₁ hs₁ => ?_)
  simp only [Bool.false_eq_true, if_false]
  refine wpAny_bind ?_
  simp only [List.forIn_toArray, List.forIn_cons, List.forIn_nil]
  refine wpAny_bind (wpAny_bind (wpAny_holding ?_))
  show wpAny _ _ (Builtin.SmallTypes.nextOf (.ref i1) >>= _) _ _ _
  cases hx : xs[k1]? with
  | none =>
    refine wpAny_bind (wpAny_nextOf_list_end hh (h1.extBut hs₁.extBut D.i1z) (hl1.extBut hs₁.extBut D.l1z) hx fun h₂ e hs₂ he => ?_)
    exact hE h₂ e (fun c o c1 _ c3 _ x => hs₂ _ _ c3 (hs₁.extBut _ _ c1 x)) he
  | some x =>
    have hy : ys[k2]? = none := by rcases hend with h | h; rw [hx] at h; cases h; exact h
    refine wpAny_bind (wpAny_nextOf_list_item (h1.extBut hs₁.extBut D.i1z) (hl1.extBut hs₁.extBut D.l1z) hx fun h₂ h1₂ hs₂ => wpAny_pure ?_)
    refine wpAny_pure ?_
    refine wpAny_bind (wpAny_bind (wpAny_holding ?_))
    show wpAny _ _ (Builtin.SmallTypes.nextOf (.ref i2) >>= _) _ _ _
    refine wpAny_bind (wpAny_nextOf_list_end hh ((h2.extBut hs₁.extBut D.i2z).extBut hs₂.extBut D.i12.symm) ((hl2.extBut hs₁.extBut D.l2z).extBut hs₂.extBut D.l2i1) hy fun h₄ e hs₄ he => ?_)
    exact hE h₄ e (fun c o c1 _ c3 c4 x => hs₄ _ _ c4 (hs₂.extBut _ _ c3 (hs₁.extBut _ _ c1 x))) he
/-- a zip over two lists, i turns taken -/
noncomputable def ZSt (h : Heap) (z TI TO i1 i2 l1 l2 : Addr) (xs ys : Array Value) (i : Nat) : Prop :=
  IsPair h TI (.ref i1) (.ref i2) ∧ h.IsListIter i1 l1 i ∧ h.IsListIter i2 l2 i ∧ h.IsList l1 xs ∧ h.IsList l2 ys ∧
    ((IsZip h z TI TO .none ∧ ∃ a b, IsPair h TO a b) ∨ ∃ T b x y, IsZipS h z TI TO T b ∧ IsPair h T x y)
theorem ZSt.keep {h h' : Heap} {z TI TO i1 i2 l1 l2 : Addr} {xs ys : Array Value} {i : Nat} (hk : ∀ b o, o.cls ≠ .type "dict" → h.get? b = some o → h'.get? b = some o) (x : ZSt h z TI TO i1 i2 l1 l2 xs ys i) : ZSt h' z TI TO i1 i2 l1 l2 xs ys i := by
  obtain ⟨a1, ⟨o2, b2, c2, d2⟩, ⟨o3, b3, c3, d3⟩, ⟨o4, b4, c4, d4⟩, ⟨o5, b5, c5, d5⟩, a6⟩ := x
  have ct : Value.type "tuple" ≠ Value.type "dict" := by decide
  have cz : Value.type "zip" ≠ Value.type "dict" := by decide
  refine ⟨hk _ _ ct a1, ⟨o2, hk _ _ (by rw [c2]; decide) b2, c2, d2⟩, ⟨o3, hk _ _ (by rw [c3]; decide) b3, c3, d3⟩, ⟨o4, hk _ _ (by rw [c4]; decide) b4, c4, d4⟩, ⟨o5, hk _ _ (by rw [c5]; decide) b5, c5, d5⟩, ?_⟩
  rcases a6 with ⟨q1, a, b, q2⟩ | ⟨T, b, x, y, q1, q2⟩
  · exact .inl ⟨hk _ _ cz q1, a, b, hk _ _ ct q2⟩
  · exact .inr ⟨T, b, x, y, hk _ _ cz q1, hk _ _ ct q2⟩
theorem zst_item {z TI TO i1 i2 l1 l2 : Addr} {xs ys : Array Value} {i : Nat} {x y : Value} {Q : Option Value → Shared → Prop} (D : ZipApart z TI TO i1 i2 l1 l2) (hst : ZSt s.heap z TI TO i1 i2 l1 l2 xs ys i) (hx : xs[i]? = some x) (hy : ys[i]? = some y)
    (hQ : ∀ T h', IsPair h' T x y → ZSt h' z TI TO i1 i2 l1 l2 xs ys (i + 1) → (∀ c o, c ≠ z → c ≠ TO → c ≠ i1 → c ≠ i2 → s.heap.get? c = some o → h'.get? c = some o) → Q (some (.ref T)) { s with heap := h' }) :
    wpAny (model prog w) A (pyNext (.ref z)) Q E s := by
  obtain ⟨hTI, h1, h2, hl1, hl2, hst⟩ := hst
  rcases hst with ⟨hz, a, b, hTO⟩ | ⟨T, b, x', y', hz, hT⟩
  · refine wpAny_pyNext_zip_item D hz hTI hTO h1 h2 hl1 hl2 hx hy fun h' a1 a2 a3 a4 a5 a6 hk => ?_
    exact hQ _ h' a5 ⟨hk _ _ D.TIz D.TITO D.TIi1 D.TIi2 hTI, a3, a4, hl1.at fun o e => hk _ o D.l1z D.l1TO D.l1i1 D.l1i2 e, hl2.at fun o e => hk _ o D.l2z D.l2TO D.l2i1 D.l2i2 e, .inr ⟨_, false, x, y, a1, a5⟩⟩ hk
  · have hTy : s.TypeIs (.ref z) "zip" := ⟨_, hz, rfl⟩
    unfold pyNext
    refine wpAny_bind (wpAny_attempt (wpAny_callSpecial?_slot (name := Str.ofString "__next__") hTy PySem.F.slot_zip_next
      (wpAny_call_entry PySem.F.slot_zip_next hTy PySem.F.entry_zip_next
        (zip_slow_item D hz hT hTI h1 h2 hl1 hl2 hx hy fun h' a1 a3 a4 a5 hk => wpAny_pure ?_) (PySem.F.args_zip_next_1 _))))
    have lt : ∀ {c o}, s.heap.get? c = some o → s.heap.objs.size ≠ c := fun e => Nat.ne_of_gt (Heap.lt_size e)
    exact hQ _ h' a5 ⟨hk _ _ D.TIz D.TIi1 D.TIi2 hTI, a3, a4, hl1.at fun o e => hk _ o D.l1z D.l1i1 D.l1i2 e, hl2.at fun o e => hk _ o D.l2z D.l2i1 D.l2i2 e,
      .inr ⟨T, true, x', y', a1, hk _ _ (fun e => by subst e; have := hz.symm.trans hT; simp at this) (fun e => by subst e; obtain ⟨o, ho, hc, _⟩ := h1; rw [hT] at ho; cases ho; simp at hc) (fun e => by subst e; obtain ⟨o, ho, hc, _⟩ := h2; rw [hT] at ho; cases ho; simp at hc) hT⟩⟩
      fun c o c1 _ c3 c4 e => hk c o c1 c3 c4 e
theorem zst_done {z TI TO i1 i2 l1 l2 : Addr} {xs ys : Array Value} {i : Nat} {Q : Option Value → Shared → Prop} (hh : A.handled = none) (D : ZipApart z TI TO i1 i2 l1 l2) (hst : ZSt s.heap z TI TO i1 i2 l1 l2 xs ys i) (hend : xs[i]? = none ∨ ys[i]? = none)
    (hQ : ∀ h', (∀ c o, c ≠ z → c ≠ TO → c ≠ i1 → c ≠ i2 → s.heap.get? c = some o → h'.get? c = some o) → Q none { s with heap := h' }) : wpAny (model prog w) A (pyNext (.ref z)) Q E s := by
  obtain ⟨hTI, h1, h2, hl1, hl2, hst⟩ := hst
  rcases hst with ⟨hz, a, b, hTO⟩ | ⟨T, b, x', y', hz, hT⟩
  · exact wpAny_pyNext_zip_end hh D hz hTI hTO h1 h2 hl1 hl2 hend hQ
  · have hTy : s.TypeIs (.ref z) "zip" := ⟨_, hz, rfl⟩
    unfold pyNext
    refine wpAny_bind (wpAny_attempt (wpAny_callSpecial?_slot (name := Str.ofString "__next__") hTy PySem.F.slot_zip_next
      (wpAny_call_entry PySem.F.slot_zip_next hTy PySem.F.entry_zip_next (zip_slow_end hh D hz hT hTI h1 h2 hl1 hl2 hend fun h' e hk he => ?_) (PySem.F.args_zip_next_1 _))))
    obtain ⟨o, ho, hc⟩ := he
    refine wpAny_bind (wpAny_isInstance (T := "StopIteration") (b := true) ⟨o, ho, hc⟩ isSubtype_stop ?_)
    exact wpAny_pure (hQ _ hk)
end


/-! dict(zip(xs, ys)) -/
section
variable {prog : Program} {w : World} {A : Around} {E : Value → Shared → Prop} {s : Shared} {K : Type} [DecidableEq K] {knd : KeyKind prog w K}
theorem stored_next {kv : List (K × Value)} {i : Nat} {k : K} {v : Value} (hn : (kv.map (·.1)).Nodup) (h : kv[i]? = some (k, v)) : stored (kv.take i) k v = kv.take (i + 1) := by
  have hi : i < kv.length := by
    rcases Nat.lt_or_ge i kv.length with q | q
    · exact q
    · rw [List.getElem?_eq_none q] at h; cases h
  rw [stored, if_neg, List.take_add_one, h]
  · rfl
  · rw [List.any_eq_true]
    rintro ⟨⟨k', v'⟩, hm, he⟩
    have he : k' = k := of_decide_eq_true he
    subst he
    obtain ⟨j, hj⟩ := List.getElem?_of_mem hm
    have hji : j < i := by
      rcases Nat.lt_or_ge j i with q | q
      · exact q
      · rw [List.getElem?_eq_none (by rw [List.length_take]; omega)] at hj; cases hj
    rw [List.getElem?_take_of_lt hji] at hj
    have h1 : (kv.map (·.1))[j]? = some k' := by rw [List.getElem?_map, hj]; rfl
    have h2 : (kv.map (·.1))[i]? = some k' := by rw [List.getElem?_map, h]; rfl
    have := (List.getElem?_inj (by simpa using Nat.lt_trans hji hi) hn).mp (h1.trans h2.symm)
    omega
theorem dict_loop {z TI TO i1 i2 l1 l2 d : Addr} {xs ys : Array Value} {kv : List (K × Value)} {R : Result → Shared → Prop} (hh : A.handled = none) (D : ZipApart z TI TO i1 i2 l1 l2) (hd : d ≠ z ∧ d ≠ TO ∧ d ≠ i1 ∧ d ≠ i2)
    (hkv : ∀ (i : Nat) (k : K) (v : Value), kv[i]? = some (k, v) → ∃ key, xs[i]? = some key ∧ ys[i]? = some v ∧ knd.is k key = true) (hend : xs[kv.length]? = none ∨ ys[kv.length]? = none) (hn : (kv.map (·.1)).Nodup) (hz : kv.length ≤ sizeLine) :
    ∀ (j i : Nat) (s : Shared), kv.length - i = j → i ≤ kv.length → ZSt s.heap z TI TO i1 i2 l1 l2 xs ys i → s.heap.DictOf knd d (kv.take i) →
      (∀ h' tk, h'.DictOf knd d kv → (∀ c o, c ≠ z → c ≠ TO → c ≠ i1 → c ≠ i2 → c ≠ d → s.heap.get? c = some o → h'.get? c = some o) → R (.ok (.ret .none)) { s with heap := h', toks := tk }) →
      codeAny (model prog w) A (.builtin "dict.update.loop" ⟨[.ref d, .ref z, rawInt (i : Int), .none], []⟩) R s := by
  intro j
  induction j with
  | zero =>
    intro i s hj hi hst hS hR
    have hin : i = kv.length := by omega
    subst hin
    refine codeAny_builtin entry_dict_loop ?_
    rw [Around.under_plainId plain_dict_loop _]
    show wpAny _ A.in1 (pyNext (.ref z) >>= _) _ _ s
    refine wpAny_bind (zst_done (by simp [hh]) D hst hend fun h' hk => ?_)
    show wpAny _ A.in1 (ret Value.none) _ _ _
    rw [List.take_length] at hS
    obtain ⟨o, es, ep, ho, r⟩ := hS
    exact wpAny_pure (hR h' s.toks ⟨o, es, ep, hk d o hd.1 hd.2.1 hd.2.2.1 hd.2.2.2 ho, r⟩ fun c o c1 c2 c3 c4 _ e => hk c o c1 c2 c3 c4 e)
  | succ j ih =>
    intro i s hj hi hst hS hR
    have hlt : i < kv.length := by omega
    obtain ⟨⟨k, v⟩, hkvi⟩ : ∃ p, kv[i]? = some p := ⟨kv[i], List.getElem?_eq_getElem hlt⟩
    obtain ⟨key, hx, hy, hkey⟩ := hkv i k v hkvi
    refine codeAny_builtin entry_dict_loop ?_
    rw [Around.under_plainId plain_dict_loop _]
    show wpAny _ A.in1 (pyNext (.ref z) >>= _) _ _ s
    refine wpAny_bind (zst_item D hst hx hy fun T h' hT hst' hk => ?_)
    have hS' : h'.DictOf knd d (kv.take i) := by
      obtain ⟨o, es, ep, ho, r⟩ := hS
      exact ⟨o, es, ep, hk d o hd.1 hd.2.1 hd.2.2.1 hd.2.2.2 ho, r⟩
    have hTT : Shared.TypeIs { s with heap := h' } (.ref T) "tuple" := ⟨_, hT, rfl⟩
    refine wpAny_bind (wpAny_holding ?_)
    refine wpAny_bind (wpAny_tryCatch ?_)
    unfold Builtin.Dict.pairItems
    refine wpAny_bind (wpAny_typeOf hTT ?_)
    rw [if_pos (by decide)]
    refine wpAny_bind (wpAny_seqItems hT rfl (wpAny_pure ?_))
    show wpAny _ _ (holding [key, v] (dictSet d key v)) _ _ _
    refine wpAny_holding (wpAny_dictSet_pairs hkey hS' (fun h'' hS'' hs => ?_) (hsz := by rw [List.length_take]; omega))
    rw [stored_next hn hkvi] at hS''
    have hkeep : ∀ c o, c ≠ z → c ≠ TO → c ≠ i1 → c ≠ i2 → c ≠ d → s.heap.get? c = some o → h''.get? c = some o := fun c o c1 c2 c3 c4 c5 e => hs.extBut _ _ c5 (hk c o c1 c2 c3 c4 e)
    have hst'' : ZSt h'' z TI TO i1 i2 l1 l2 xs ys (i + 1) := hst'.keep fun b o hc e => hs.extBut _ _ (fun q => by
      obtain ⟨o', es, ep, ho, hx, _⟩ := hS'
      rw [q] at e
      rw [show h'.get? d = some o' from ho] at e
      cases e
      exact hc hx.1) e
    exact wpAny_pure ⟨plainId_quiet plain_dict_loop _, ih (i + 1) _ (by omega) (by omega) hst'' hS'' fun h3 tk hd3 hk3 => hR h3 tk hd3 fun c o c1 c2 c3 c4 c5 e => hk3 c o c1 c2 c3 c4 c5 (hkeep c o c1 c2 c3 c4 c5 e)⟩
theorem call_dict_zip {z TI TO i1 i2 l1 l2 : Addr} {xs ys : Array Value} {kv : List (K × Value)} {Q : Value → Shared → Prop} (hh : A.handled = none) (D : ZipApart z TI TO i1 i2 l1 l2)
    (hkv : ∀ (i : Nat) (k : K) (v : Value), kv[i]? = some (k, v) → ∃ key, xs[i]? = some key ∧ ys[i]? = some v ∧ knd.is k key = true) (hend : xs[kv.length]? = none ∨ ys[kv.length]? = none) (hn : (kv.map (·.1)).Nodup) (hz : kv.length ≤ sizeLine)
    (hzip : IsZip s.heap z TI TO .none) (hTI : IsPair s.heap TI (.ref i1) (.ref i2)) (hTO : IsPair s.heap TO .none .none) (h1 : s.heap.IsListIter i1 l1 0) (h2 : s.heap.IsListIter i2 l2 0) (hl1 : s.heap.IsList l1 xs) (hl2 : s.heap.IsList l2 ys)
    (h : ∀ h' tk, h'.DictOf knd s.heap.objs.size kv → (∀ c o, c ≠ z → c ≠ TO → c ≠ i1 → c ≠ i2 → s.heap.get? c = some o → h'.get? c = some o) → Q (.ref s.heap.objs.size) { s with heap := h', toks := tk }) :
    wpAny (model prog w) A (call (.type "dict") [.ref z]) Q E s := by
  refine callType_codes (Q₁ := fun obj s₁ => obj = .ref s.heap.objs.size ∧ s₁ = { s with heap := s.heap.push { cls := .type "dict", data := .dict #[] } }) F.kt_called_dict (F.kt_typeCall_dict_1 _) PySem.F.entry_dict_init (kt_code_dict_new _ ⟨rfl, rfl⟩) ?_
  rintro obj s₁ ⟨rfl, rfl⟩
  have hnew : (s.heap.push { cls := .type "dict", data := .dict #[] }).DictOf knd s.heap.objs.size [] := Heap.DictOf.new s.heap
  have up : ∀ c o, s.heap.get? c = some o → (s.heap.push { cls := .type "dict", data := .dict #[] }).get? c = some o := fun c o e => Heap.get?_push_of_some _ e
  have lt : ∀ {c o}, s.heap.get? c = some o → c ≠ s.heap.objs.size := fun e => Nat.ne_of_lt (Heap.lt_size e)
  have hzip' := up _ _ hzip
  refine ⟨hnew.typeIs, PySem.F.args_dict_init_2 _ _, ?_⟩
  unfold Builtin.«dict.__init__»
  refine wpAny_bind ?_
  unfold Builtin.Dict.selfAndRest
  refine wpAny_bind (wpAny_notOrdered_dict hnew.typeIs ?_)
  show wpAny _ _ (pure (s.heap.objs.size, [Value.ref z])) _ _ _
  refine wpAny_pure ?_
  show wpAny _ _ (Builtin.Dict.updateFrom "dict.__init__" s.heap.objs.size (.ref z) [] .none) _ _ _
  unfold Builtin.Dict.updateFrom
  have hTz : Shared.TypeIs { s with heap := s.heap.push { cls := .type "dict", data := .dict #[] } } (.ref z) "zip" := ⟨_, hzip', rfl⟩
  refine wpAny_bind (wpAny_typeOf hTz ?_)
  rw [if_pos (by decide)]
  refine wpAny_bind (no_keys hzip' (by simp [hh]) fun h1' tk1 hk1 => ?_)
  rw [if_pos (show (Option.isNone (none : Option Value)) = true from rfl)]
  refine wpAny_bind (wpAny_rule ?_)
  refine wpAny_bind (wpAny_pyIter_zip (hk1 _ _ hzip') ?_)
  refine wpAny_pure ⟨plainId_quiet plain_dict_loop _, ?_⟩
  have go : ∀ c o, s.heap.get? c = some o → h1'.get? c = some o := fun c o e => hk1 _ _ (up _ _ e)
  have hd0 : h1'.DictOf knd s.heap.objs.size (kv.take 0) := by
    obtain ⟨o, es, ep, ho, r⟩ := hnew
    exact ⟨o, es, ep, hk1 _ _ ho, r⟩
  refine dict_loop (by simp [hh]) D ⟨(lt hzip).symm, (lt hTO).symm, ?_, ?_⟩ hkv hend hn hz _ 0 _ rfl (Nat.zero_le _) ⟨go _ _ hTI, h1.at fun o e => go _ o e, h2.at fun o e => go _ o e, hl1.at fun o e => go _ o e, hl2.at fun o e => go _ o e, .inl ⟨go _ _ hzip, _, _, go _ _ hTO⟩⟩ hd0 fun h3 tk3 hd3 hk3 => ?_
  · obtain ⟨_, e, _⟩ := h1; exact (lt e).symm
  · obtain ⟨_, e, _⟩ := h2; exact (lt e).symm
  · exact ⟨rfl, h _ _ hd3 fun c o c1 c2 c3 c4 e => hk3 c o c1 c2 c3 c4 (lt e) (go _ _ e)⟩
end


/-! _law_things: the plain side -/
noncomputable def rl (d : PyData) : Nat := (rawOf (pcs d)).length
noncomputable def costL : List PyData → Nat
  | [] => 0
  | d :: r => rl d + 2 + costL r
noncomputable def sumL : List (List Pc) → Nat
  | [] => 0
  | p :: r => (rawOf p).length + 2 + sumL r
theorem glue_sum : ∀ (ps : List (List Pc)) (acc : List Pc), (rawOf (ps.foldl stepP acc)).length ≤ (rawOf acc).length + sumL ps
  | [], acc => by simp [sumL]
  | p :: r, acc => by
    have h1 := glue_sum r (stepP acc p)
    have h2 : (rawOf (stepP acc p)).length ≤ (rawOf acc).length + 2 + (rawOf p).length := by
      unfold stepP
      split
      · rename_i e; rw [e, raw_app, List.length_append]; simp [rawOf]
      · rw [raw_app, raw_app, List.length_append, List.length_append, show rawOf commaP = [44, 32] from rfl]; simp
    rw [List.foldl_cons]
    simp only [sumL]; omega
theorem sumL_pcs : ∀ ds : List PyData, sumL (pcsL ds) = costL ds
  | [] => rfl
  | d :: r => by simp only [pcsL, sumL, costL, rl, sumL_pcs r]
theorem rl_list (ds : List PyData) : rl (.list ds) ≤ costL ds + 2 := by
  have h := glue_sum (pcsL ds) []
  rw [sumL_pcs] at h
  have e : rawOf (pcs (.list ds)) = [91] ++ (rawOf (glue (pcsL ds)) ++ [93]) := by simp [pcs, rawOf]
  unfold rl
  rw [e, List.length_append, List.length_append]
  unfold glue
  simp only [rawOf, List.flatMap_nil, List.length_nil, List.length_cons] at h ⊢
  omega
theorem rl_tuple (ds : List PyData) : rl (.tuple ds) ≤ costL ds + 3 := by
  have h := glue_sum (pcsL ds) []
  rw [sumL_pcs] at h
  have e : rawOf (pcs (.tuple ds)) = [40] ++ ((rawOf (glue (pcsL ds)) ++ rawOf (if ds.length = 1 then [bareP [44]] else [])) ++ [41]) := by simp [pcs, rawOf]
  have h2 : (rawOf (if ds.length = 1 then [bareP [44]] else [])).length ≤ 1 := by split <;> simp [rawOf]
  unfold rl
  rw [e, List.length_append, List.length_append, List.length_append]
  unfold glue
  simp only [rawOf, List.flatMap_nil, List.length_nil, List.length_cons] at h h2 ⊢
  omega
noncomputable def keys3 : List MK := [.inl (Str.ofString "k y"), .inr 7, .inl (Str.ofString "it's")]
noncomputable abbrev tab (ds : List PyData) : List (PyData × PyData) := (keys3.map encK).zip ds
theorem rl_str (x : Str) : rl (.str x) = ((sg x).flatMap esc).length + 2 := by simp [rl, pcs, rawOf, textPc]
theorem key1 : rl (encK (.inl (Str.ofString "k y"))) = 5 ∧ GoodD (encK (.inl (Str.ofString "k y"))) := by
  have e : sg (Str.ofString "k y") = [107, 32, 121] := by decide +kernel
  refine ⟨?_, ?_⟩
  · show rl (.str _) = 5
    rw [rl_str, e]; decide
  · show GoodD (.str _)
    simp only [GoodD]
    rw [e]; simp [GoodS, GoodC]
theorem key2 : rl (encK (.inr 7)) = 1 ∧ GoodD (encK (.inr 7)) := by
  refine ⟨?_, ?_⟩
  · show rl (.int 7) = 1
    have e : sg (toString (7 : Int)) = [55] := by decide +kernel
    simp only [rl, pcs, rawOf, e]; rfl
  · show GoodD (.int 7)
    simp only [GoodD]; decide
theorem key3 : rl (encK (.inl (Str.ofString "it's"))) = 6 ∧ GoodD (encK (.inl (Str.ofString "it's"))) := by
  have e : sg (Str.ofString "it's") = [105, 116, 39, 115] := by decide +kernel
  refine ⟨?_, ?_⟩
  · show rl (.str _) = 6
    rw [rl_str, e]; decide
  · show GoodD (.str _)
    simp only [GoodD]
    rw [e]; simp [GoodS, GoodC]
theorem sumL_K (k d : PyData) (r : List (PyData × PyData)) : sumL (pcsK ((k, d) :: r)) = rl k + 2 + rl d + 2 + sumL (pcsK r) := by
  simp only [pcsK, sumL, raw_app, List.length_append, rl]
  rw [show rawOf colonP = [58, 32] from rfl]
  simp only [List.length_cons, List.length_nil]
theorem rl_dict (kvs : List (PyData × PyData)) : rl (.dict kvs) ≤ sumL (pcsK kvs) + 2 := by
  have h := glue_sum (pcsK kvs) []
  have e : rawOf (pcs (.dict kvs)) = [123] ++ (rawOf (glue (pcsK kvs)) ++ [125]) := by simp [pcs, rawOf]
  unfold rl
  rw [e, List.length_append, List.length_append]
  unfold glue
  simp only [rawOf, List.flatMap_nil, List.length_nil, List.length_cons] at h ⊢
  omega
noncomputable def kcost : List MK → Nat
  | [] => 0
  | k :: r => rl (encK k) + 2 + kcost r
theorem zip_sum : ∀ (ks : List MK) (ds : List PyData), sumL (pcsK ((ks.map encK).zip ds)) ≤ costL ds + kcost ks
  | [], ds => Nat.zero_le _
  | k :: r, [] => Nat.zero_le _
  | k :: r, d :: q => by
    have ih := zip_sum r q
    rw [List.map_cons, List.zip_cons_cons, sumL_K]
    simp only [costL, kcost]; omega
theorem zip_good : ∀ (ks : List MK) (ds : List PyData), (∀ k ∈ ks, GoodD (encK k)) → GoodL ds → GoodK ((ks.map encK).zip ds)
  | [], _, _, _ => trivial
  | k :: r, [], _, _ => trivial
  | k :: r, d :: q, hk, hd => by
    have hd : GoodD d ∧ GoodL q := by simpa only [GoodL] using hd
    rw [List.map_cons, List.zip_cons_cons]
    simp only [GoodK]
    exact ⟨hk _ List.mem_cons_self, hd.1, zip_good r q (fun k h => hk k (List.mem_cons_of_mem _ h)) hd.2⟩
theorem encK_flat (k : MK) : (encK k).depth = 0 := by
  cases k <;> simp only [encK, PyData.depth]
theorem zip_depth : ∀ (ks : List MK) (ds : List PyData), PyData.depthKv ((ks.map encK).zip ds) ≤ PyData.depthAll ds
  | [], _ => Nat.zero_le _
  | k :: r, [] => Nat.le_refl _
  | k :: r, d :: q => by
    have ih := zip_depth r q
    rw [List.map_cons, List.zip_cons_cons]
    simp only [PyData.depthKv, PyData.depthAll, encK_flat, Nat.zero_max]
    exact Nat.max_le.mpr ⟨Nat.le_max_left _ _, Nat.le_trans ih (Nat.le_max_right _ _)⟩
theorem keys3_good : ∀ k ∈ keys3, GoodD (encK k) := fun k hk => by
  simp only [keys3, List.mem_cons, List.not_mem_nil, or_false] at hk
  rcases hk with rfl | rfl | rfl
  · exact key1.2
  · exact key2.2
  · exact key3.2
theorem tab_facts {ds : List PyData} (hg : GoodL ds) : rl (.dict (tab ds)) ≤ costL ds + 20 ∧ GoodK (tab ds) ∧ PyData.depthKv (tab ds) ≤ PyData.depthAll ds := by
  have h := Nat.le_trans (rl_dict (tab ds)) (Nat.add_le_add_right (zip_sum keys3 ds) 2)
  have e : kcost keys3 = 18 := by simp only [keys3, kcost, key1.1, key2.1, key3.1]
  rw [e] at h
  exact ⟨h, zip_good _ _ keys3_good hg, zip_depth _ _⟩
theorem costL_app : ∀ a b : List PyData, costL (a ++ b) = costL a + costL b
  | [], b => by simp [costL]
  | x :: r, b => by simp only [List.cons_append, costL, costL_app r b]; omega
theorem goodL_app : ∀ a b : List PyData, GoodL (a ++ b) ↔ GoodL a ∧ GoodL b
  | [], b => by simp [GoodL]
  | x :: r, b => by simp only [List.cons_append, GoodL, goodL_app r b, and_assoc]
theorem depthL_app : ∀ a b : List PyData, PyData.depthAll (a ++ b) = max (PyData.depthAll a) (PyData.depthAll b)
  | [], b => by simp [PyData.depthAll]
  | x :: r, b => by simp only [List.cons_append, PyData.depthAll, depthL_app r b, Nat.max_assoc]
/-- what the things are after i turns -/
noncomputable def TInv (i : Nat) (ds : List PyData) : Prop := GoodL ds ∧ costL ds ≤ 94 + 22 * i ∧ PyData.depthAll ds ≤ i ∧ ds ≠ []
theorem TInv.app {i : Nat} {ds : List PyData} (h : TInv i ds) {a : List PyData} {d : PyData} {c : Nat} (ha : GoodL a) (hd : GoodD d) (hc : costL a + rl d + 2 ≤ costL ds + 22) (hp : PyData.depthAll a ≤ i + 1) (hq : d.depth ≤ i + 1) : TInv (i + 1) (a ++ [d]) := by
  obtain ⟨_, h2, h3, _⟩ := h
  refine ⟨(goodL_app _ _).mpr ⟨ha, by simp only [GoodL]; exact ⟨hd, trivial⟩⟩, ?_, ?_, by simp⟩
  · rw [costL_app]; simp only [costL]; omega
  · rw [depthL_app]; simp only [PyData.depthAll]; omega
theorem TInv.split {i : Nat} {ds : List PyData} (h : TInv i ds) (k : Nat) : GoodL (ds.take k) ∧ GoodL (ds.drop k) ∧ costL (ds.take k) + costL (ds.drop k) = costL ds ∧ PyData.depthAll (ds.take k) ≤ i ∧ PyData.depthAll (ds.drop k) ≤ i := by
  obtain ⟨h1, h2, h3, _⟩ := h
  rw [← List.take_append_drop k ds] at h1 h3
  have h1 := (goodL_app _ _).mp h1
  rw [depthL_app] at h3
  refine ⟨h1.1, h1.2, ?_, by omega, by omega⟩
  rw [← costL_app, List.take_append_drop]
theorem TInv.flat {i : Nat} {ds : List PyData} (h : TInv i ds) {d : PyData} (hd : GoodD d) (hc : rl d ≤ 20) (hq : d.depth = 0) : TInv (i + 1) (ds ++ [d]) :=
  h.app (c := 0) h.1 hd (by omega) (Nat.le_succ_of_le h.2.2.1) (by omega)
theorem TInv.list {i : Nat} {ds : List PyData} (h : TInv i ds) (k : Nat) : TInv (i + 1) (ds.take k ++ [.list (ds.drop k)]) := by
  obtain ⟨a, b, c, d, e⟩ := h.split k
  have := rl_list (ds.drop k)
  exact h.app (c := 0) a (by simpa only [GoodD] using b) (by omega) (by omega) (by simp only [PyData.depth]; omega)
theorem TInv.tuple {i : Nat} {ds : List PyData} (h : TInv i ds) (k : Nat) : TInv (i + 1) (ds.take k ++ [.tuple (ds.drop k)]) := by
  obtain ⟨a, b, c, d, e⟩ := h.split k
  have := rl_tuple (ds.drop k)
  exact h.app (c := 0) a (by simpa only [GoodD] using b) (by omega) (by omega) (by simp only [PyData.depth]; omega)
theorem TInv.dict {i : Nat} {ds : List PyData} (h : TInv i ds) (k : Nat) : TInv (i + 1) (ds.take k ++ [.dict (tab (ds.drop k))]) := by
  obtain ⟨a, b, c, d, e⟩ := h.split k
  obtain ⟨f1, f2, f3⟩ := tab_facts b
  exact h.app (c := 0) a (by simpa only [GoodD] using f2) (by omega) (by omega) (by simp only [PyData.depth]; omega)
theorem esc_le (c : Nat) : (esc c).length ≤ 4 := by
  unfold esc
  split
  · simp
  · split
    · simp
    · split <;> simp
/-- a sign more in the last text -/
theorem TInv.sign {i : Nat} {pre : List PyData} {x : Str} {c : Nat} (h : TInv i (pre ++ [.str x])) (hc : GoodC c) (hq : ¬ (39 ∈ sg x ++ [c] ∧ 34 ∈ sg x ++ [c])) : TInv (i + 1) (pre ++ [.str (tx (sg x ++ [c]))]) := by
  obtain ⟨h1, _, h3, _⟩ := id h
  have h1 := (goodL_app _ _).mp h1
  rw [depthL_app] at h3
  have h4 : GoodS (sg x) := by have := h1.2; simp only [GoodL, GoodD] at this; exact this.1
  have e : sg (tx (sg x ++ [c])) = sg x ++ [c] := by simp [sg, tx]
  refine h.app (c := 0) h1.1 ?_ ?_ (by omega) (by simp only [PyData.depth]; omega)
  · simp only [GoodD]
    rw [e]
    refine ⟨fun k hk => ?_, hq⟩
    rcases List.mem_append.mp hk with hk | hk
    · exact h4.1 k hk
    · rw [List.mem_singleton.mp hk]; exact hc
  · have := esc_le c
    rw [costL_app, rl_str, e]
    simp only [costL]
    rw [rl_str, List.flatMap_append, List.length_append]
    simp only [List.flatMap_cons, List.flatMap_nil, List.append_nil]
    omega
theorem TInv.stay {i : Nat} {ds : List PyData} (h : TInv i ds) : TInv (i + 1) ds := ⟨h.1, Nat.le_trans h.2.1 (by omega), Nat.le_succ_of_le h.2.2.1, h.2.2.2⟩
/-- an empty text, and a sign in it -/
theorem TInv.fresh {i : Nat} {ds : List PyData} {c : Nat} (h : TInv i ds) (hc : GoodC c) : TInv (i + 1) (ds ++ [.str (tx [c])]) := by
  have e : sg (tx [c]) = [c] := by simp [sg, tx]
  have := esc_le c
  refine h.flat ?_ ?_ (by simp only [PyData.depth])
  · simp only [GoodD]
    rw [e]
    exact ⟨fun k hk => by rw [List.mem_singleton.mp hk]; exact hc, by simp; omega⟩
  · rw [rl_str, e]
    simp only [List.flatMap_cons, List.flatMap_nil, List.append_nil]
    omega
theorem TInv.bound {i : Nat} {ds : List PyData} (h : TInv i ds) (hi : i ≤ 12) : costL ds ≤ 358 := Nat.le_trans h.2.1 (by omega)
theorem dash_start {y : List Nat} (hy : y.length ≤ 89) (h45 : ∀ c ∈ y, c = 45) : TInv 0 [.str (tx (35 :: y))] := by
  have e : sg (tx (35 :: y)) = 35 :: y := by simp [sg, tx]
  refine ⟨?_, ?_, by simp [PyData.depthAll, PyData.depth], by simp⟩
  · simp only [GoodL, GoodD]
    rw [e]
    refine ⟨⟨fun c hc => ?_, fun ⟨a, _⟩ => ?_⟩, trivial⟩
    · rcases List.mem_cons.mp hc with rfl | hc
      · unfold GoodC; omega
      · rw [h45 c hc]; unfold GoodC; omega
    · rcases List.mem_cons.mp a with a | a
      · exact absurd a (by decide)
      · exact absurd (h45 _ a) (by decide)
  · have hf : ∀ y : List Nat, (∀ c ∈ y, c = 45) → (y.flatMap esc).length = y.length := fun y => by
      induction y with
      | nil => intro _; rfl
      | cons a r ih =>
        intro h
        rw [List.flatMap_cons, List.length_append, ih fun c hc => h c (List.mem_cons_of_mem _ hc), h a List.mem_cons_self]
        simp [esc]; omega
    simp only [costL]
    rw [rl_str, e, List.flatMap_cons, List.length_append, hf y h45]
    simp [esc]; omega


/-! _law_things: rules -/
section
variable {w : World} {A : Around} {env : Env} {h₀ : Heap} {L : Addr} {s : Shared} {Q : Flow → Shared → Prop} {E : Value → Shared → Prop} {target : PySem.Expr} {body : List Stmt} {pos : Pos}
/-- a for over a list that the head makes -/
noncomputable def ForAt (w : World) (A : Around) (env : Env) (h₀ : Heap) (L : Addr) (s : Shared) (Q : Flow → Shared → Prop) (E : Value → Shared → Prop) (target : PySem.Expr) (body : List Stmt) (v : Value) (s₁ : Shared) : Prop :=
  ∃ l vs nn m₀ news₀ h tk, ∃ J : Nat → (Str → Option Value) → Led → Prop, v = .ref l ∧ s₁ = { s with heap := h, toks := tk } ∧ Fr h₀ L h m₀ ∧ News h₀ L h news₀ ∧ (∀ i m' nx, J i m' nx → (l, lisO (vs : List Value).toArray nn) ∈ nx) ∧ J 0 m₀ news₀ ∧
    (∀ i v m₁ news₁ I oI h tk, vs[i]? = some v → J i m₁ news₁ → Fr h₀ L h m₁ → News h₀ L h ((I, oI) :: news₁) → (∀ p ∈ news₁, @Ne Nat p.1 I) → (∃ fs, oI.data = .fields fs) →
      ∀ R : Flow → Shared → Prop, (∀ f s₃, TurnTo h₀ L s I oI (J (i + 1)) Q f s₃ → R f s₃) → wpAny (model prg w) A (assign target env v) (fun _ s₂ => wpAny (model prg w) A (execs body env) R E s₂) E { s with heap := h, toks := tk }) ∧
    (∀ m₁ news₁ h tk, J vs.length m₁ news₁ → Fr h₀ L h m₁ → News h₀ L h news₁ → Q .next { s with heap := h, toks := tk })
theorem for_at {x : Str} {px : Pos} {iter : PySem.Expr} {m : Str → Option Value} (_F : Fr h₀ L s.heap m) (hh : A.handled = none) (h : wpAny (model prg w) A (eval iter env) (ForAt w A env h₀ L s Q E (.Name x px) body) E s)
    (hs : ∀ x, foldedSetIterable iter env x = pure x := by intro _; rfl) (hE : PassesOwn (model prg w) A env E := by passes_own) :
    wpAny (model prg w) A (exec (.For (.Name x px) iter body [] pos) env) Q E s := by
  refine wpAny_For (wpAny_mono h (fun v s₁ h₁ => ?_) fun _ _ e => e) hs
  obtain ⟨l, vs, nn, m₀, news₀, h, tk, J, rfl, rfl, F, N, hJl, h0, turn, done⟩ := h₁
  have hl := hJl _ _ _ h0
  have hol := (N _ hl).1
  have hls : h.IsList l vs.toArray := ⟨_, hol, rfl, nn, rfl⟩
  have hne : @Ne Nat l h.objs.size := Nat.ne_of_lt (Heap.lt_size hol)
  refine wpAny_pyIter_list hls ?_
  have W := Walks.list (prog := prg) (w := w) hh h.objs.size l hne vs.toArray
  rw [show vs.toArray.size = vs.length by simp] at W
  refine loop_walk W hE J hJl (tk := tk) ⟨⟨_, Heap.get?_push_size _ rfl, rfl, rfl⟩, hls.at fun o e => Heap.get?_push_of_some _ e⟩ (F.push _) (fun p hp => ⟨Heap.get?_push_of_some _ (N p hp).1, (N p hp).2⟩) (next_is_new F)
    (fun e => absurd F.ns.lt (e ▸ Nat.lt_irrefl _)) (fun p hp => Nat.ne_of_lt (Heap.lt_size (N p hp).1)) h0 (fun i h st => let ⟨o, ho, _, hd⟩ := st.1; ⟨o, ho, _, hd⟩) (fun i v s' Q' E' st q => wpAny_pure q) ?_ done
  intro i v m₁ news₁ oI h tk hi hP hJ F N hn hf
  exact turn i v m₁ news₁ _ oI h tk (by simpa using hP) hJ F N hn hf
end
theorem reps_one : ∀ (k : Nat) (acc : Array Nat), ((List.replicate k #[45]).foldl (· ++ ·) acc).toList = acc.toList ++ List.replicate k 45
  | 0, acc => by simp
  | k + 1, acc => by
    rw [List.replicate_succ, List.foldl_cons, reps_one k]
    simp [List.replicate_succ]
theorem dash_text (k : Int) (h0 : 0 ≤ k) : Txt.mul (Str.ofString "-") k = tx (List.replicate k.toNat 45) := by
  have e : Str.ofString "-" = tx [45] := by decide +kernel
  rw [e]
  unfold Txt.mul
  split
  · have : k.toNat = 0 := by omega
    rw [this]; rfl
  · split
    · rename_i h1 h2
      have : k = 1 := by simpa [tx, Str.length] using h2
      subst this; rfl
    · apply Str.ext'
      apply Array.toList_inj.mp
      show ((List.replicate k.toNat #[45]).foldl (· ++ ·) #[]).toList = _
      rw [reps_one]; simp [tx]
section
variable {w : World} {A : Around} {E : Value → Shared → Prop} {s : Shared} {h₀ : Heap} {L : Addr} {m : Str → Option Value} {news : Led} {Q : Value → Shared → Prop}
theorem dash_mul {t u : Tok} {k : Int} (h0 : 0 ≤ k) (h1 : k < 90) (h : ∀ y t' n, y.length ≤ 89 → (∀ c ∈ y, c = 45) → Q (.str (tx y) t') { s with toks := n }) : wpAny (model prg w) A (binaryOp .Mult (.str (Str.ofString "-") t) (.int k u)) Q E s :=
  SB.mul (mulOk_of 16 1048576 (by decide +kernel) (by omega) (by omega) (by decide) (by decide)) fun t' n => by rw [dash_text k h0]; exact h _ t' n (by rw [List.length_replicate]; omega) (fun c hc => List.eq_of_mem_replicate hc)
theorem tx_plus {x y : List Nat} {t u : Tok} (hz : x.length + y.length ≤ 5000) (h : ∀ t' n, Q (.str (tx (x ++ y)) t') { s with toks := n }) : wpAny (model prg w) A (binaryOp .Add (.str (tx x) t) (.str (tx y) u)) Q E s := by
  have hl := sizeLine_eq
  exact PyProof.Rows.add_str (fun t' tk => by rw [tx_app]; exact h t' tk) (by rw [tx_len, tx_len]; omega)
theorem hash_plus {y : List Nat} {t u : Tok} (hz : y.length ≤ 89) (h : ∀ t' n, Q (.str (tx (35 :: y)) t') { s with toks := n }) : wpAny (model prg w) A (binaryOp .Add (.str (Str.ofString "#") t) (.str (tx y) u)) Q E s := by
  have e : Str.ofString "#" = tx [35] := by decide +kernel
  rw [e]
  exact tx_plus (by simp; omega) h
/-- a list made, told to lie above the first objects -/
theorem newList_M {p : Program} {loose : List Str} {mean : ExcName → Option Value} {mg mb : Str → Option Value} {vs : List Value} (F : Fr h₀ L s.heap m) (N : News h₀ L s.heap news) (T : Top p loose mean mg mb h₀) (hz : vs.length ≤ 5000)
    (h : ∀ l h', Fr h₀ L h' m → News h₀ L h' ((l, lisO vs.toArray 0) :: news) → (∀ p ∈ news, @LT.lt Nat _ p.1 l) → @LT.lt Nat _ 1 l → Q (.ref l) { s with heap := h' }) : wpAny (model prg w) A (newList vs) Q E s := by
  have hl := sizeLine_eq
  refine newList_N F N (fun h' F' N' => h _ h' F' N' (fun p hp => Heap.lt_size (N p hp).1) ?_) (by omega)
  exact Nat.lt_trans (modules_low T.nolimit) (Nat.lt_of_le_of_lt F.above F.ns.lt)
end


/-! _law_things: rules over the ledger -/
section
variable {p : Program} {loose : List Str} {mean : ExcName → Option Value} {mg mb : Str → Option Value} {w : World} {A : Around} {E : Value → Shared → Prop} {s : Shared} {h₀ : Heap} {L T : Addr} {m : Str → Option Value} {news news' : Led} {us : List Value} {c : Nat} {v : Value}
theorem arr_push (us : List Value) (v : Value) : us.toArray.push v = (us ++ [v]).toArray := by simp
theorem app_V {Q : Value → Shared → Prop} (F : Fr h₀ L s.heap m) (N : News h₀ L s.heap news) (U : Upd T (lisO us.toArray c) (lisO (us ++ [v]).toArray (c + 1)) news news') (hz : us.length ≤ 5000)
    (h : ∀ h', Fr h₀ L h' m → News h₀ L h' news' → Q .none { s with heap := h' }) : wpAny (model prg w) A (call (.builtin "list.append") [.ref T, v]) Q E s := by
  have hl := sizeLine_eq
  rw [← arr_push] at U
  exact append_K F N U h (by rw [List.size_toArray]; omega)
theorem last_V {t : Tok} {Q : Value → Shared → Prop} (N : News h₀ L s.heap news) (hm : (T, lisO us.toArray c) ∈ news) (hv : us.getLast? = some v) (hz : us.length ≤ 5000) (h : Q v s) : wpAny (model prg w) A (getItem (.ref T) (.int (-1) t)) Q E s := by
  obtain ⟨pre, rfl⟩ := List.getLast?_eq_some_iff.mp hv
  rw [← arr_push] at hm
  exact get_last N hm (by rw [List.size_toArray]; rw [List.length_append] at hz; simp at hz; omega) h
theorem last_T {value slice : PySem.Expr} {t : Tok} {Q : Value → Shared → Prop} (N : News h₀ L s.heap news) (hm : (T, lisO us.toArray c) ∈ news) (hv : us.getLast? = some v) (hz : us.length ≤ 5000) (h : Q v s)
    (hs : subscripted slice false (.ref T) (.int (-1) t) = operate [.ref T, .int (-1) t] (getItem (.ref T) (.int (-1) t)) := by with_unfolding_all rfl) : wpAny (model prg w) A (subscriptTail value slice (.ref T) (.int (-1) t)) Q E s := by
  have hl : s.heap.IsList T us.toArray := ⟨_, (N _ hm).1, rfl, c, rfl⟩
  exact tail_any hl.typeIs slot_list_getitem.lookup (last_V N hm hv hz h) hs
theorem put_V {t : Tok} {x : Value} {Q : Unit → Shared → Prop} (F : Fr h₀ L s.heap m) (N : News h₀ L s.heap news) (U : Upd T (lisO us.toArray c) (lisO (us.dropLast ++ [x]).toArray c) news news') (hv : us.getLast? = some v) (hz : us.length ≤ 5000)
    (h : ∀ h', Fr h₀ L h' m → News h₀ L h' news' → Q () { s with heap := h' }) : wpAny (model prg w) A (setItem (.ref T) (.int (-1) t) x) Q E s := by
  obtain ⟨pre, rfl⟩ := List.getLast?_eq_some_iff.mp hv
  rw [List.dropLast_concat, ← arr_push, ← arr_push] at U
  exact set_last F N U (by rw [List.size_toArray]; rw [List.length_append] at hz; simp at hz; omega) h
theorem new_off {D : Addr} (h : ∀ p ∈ news, p.1 < D) : ∀ p ∈ news, @Ne Nat p.1 D := fun p hp => Nat.ne_of_lt (h p hp)
theorem new_low {D : Addr} {o : Obj} (hm : (T, o) ∈ news) (h1 : @LT.lt Nat _ 1 T) (h : ∀ p ∈ news, @LT.lt Nat _ p.1 D) : @LT.lt Nat _ 1 D := Nat.lt_trans h1 (h _ hm)
theorem cut_from {value slice : PySem.Expr} {k : Int} {t : Tok} {Q : Value → Shared → Prop} (F : Fr h₀ L s.heap m) (N : News h₀ L s.heap news) (hm : (T, lisO us.toArray c) ∈ news) (h0 : 0 ≤ k) (hk : k ≤ us.length) (hz : us.length ≤ 5000) (hT : @LT.lt Nat _ 1 T)
    (hs : subscripted slice false (.ref T) (.ref s.heap.objs.size) = operate [.ref s.heap.objs.size, .ref T] (getItem (.ref T) (.ref s.heap.objs.size))) (ht : ∀ r, letTemporaryGo value (.ref T) r = pure ())
    (h : ∀ D h', Fr h₀ L h' m → News h₀ L h' ((D, lisO (us.drop k.toNat).toArray 0) :: news) → (∀ p ∈ news, @Ne Nat p.1 D) → @LT.lt Nat _ 1 D → Q (.ref D) { s with heap := h' }) :
    wpAny (model prg w) A (subscriptTail value slice (.ref T) (.ref s.heap.objs.size)) Q E { s with heap := s.heap.push { cls := .type "slice", data := .fields #[.int k t, .none, .none] } } := by
  have hl := sizeLine_eq
  refine kms_slice_lit F N ⟨_, (N _ hm).1, rfl, c, rfl⟩ (.int k t) .none ?_ (fun D h' F' N' l1 => h D h' F' N' (new_off l1) (new_low hm hT l1)) hs ht (by rw [List.size_toArray]; omega)
  unfold kms_pick kms_lo kms_hi
  dsimp only
  rw [if_neg (by omega), List.take_of_length_le (by rw [List.length_drop]; omega), kmk_drop_min]
theorem cut_to {value slice : PySem.Expr} {k : Int} {t : Tok} {Q : Value → Shared → Prop} (F : Fr h₀ L s.heap m) (N : News h₀ L s.heap news) (hm : (T, lisO us.toArray c) ∈ news) (h0 : 0 ≤ k) (hz : us.length ≤ 5000) (hT : @LT.lt Nat _ 1 T)
    (hs : subscripted slice false (.ref T) (.ref s.heap.objs.size) = operate [.ref s.heap.objs.size, .ref T] (getItem (.ref T) (.ref s.heap.objs.size))) (ht : ∀ r, letTemporaryGo value (.ref T) r = pure ())
    (h : ∀ D h', Fr h₀ L h' m → News h₀ L h' ((D, lisO (us.take k.toNat).toArray 0) :: news) → (∀ p ∈ news, @Ne Nat p.1 D) → @LT.lt Nat _ 1 D → Q (.ref D) { s with heap := h' }) :
    wpAny (model prg w) A (subscriptTail value slice (.ref T) (.ref s.heap.objs.size)) Q E { s with heap := s.heap.push { cls := .type "slice", data := .fields #[.none, .int k t, .none] } } := by
  have hl := sizeLine_eq
  refine kms_slice_lit F N ⟨_, (N _ hm).1, rfl, c, rfl⟩ .none (.int k t) ?_ (fun D h' F' N' l1 => h D h' F' N' (new_off l1) (new_low hm hT l1)) hs ht (by rw [List.size_toArray]; omega)
  unfold kms_pick kms_lo kms_hi
  dsimp only
  rw [if_neg (by omega), Nat.sub_zero, List.drop_zero, kmk_take_min]
theorem tup_V {Q : Value → Shared → Prop} (F : Fr h₀ L s.heap m) (N : News h₀ L s.heap news) (hm : (T, lisO us.toArray c) ∈ news) (hz : us.length ≤ 5000)
    (h : ∀ D h', Fr h₀ L h' m → News h₀ L h' ((D, tupO us.toArray 0) :: news) → (∀ p ∈ news, @Ne Nat p.1 D) → Q (.ref D) { s with heap := h' }) : wpAny (model prg w) A (call (.type "tuple") [.ref T]) Q E s := by
  have hl := sizeLine_eq
  refine call_tuple_list ⟨_, (N _ hm).1, rfl, c, rfl⟩ (fun h' hk => ?_) (by rw [List.size_toArray]; omega)
  have F' : Fr h₀ L h' m := F.keeps hk
  have N' := N.grown hk
  exact h _ _ (F'.push _) (News.push F' N' _) fun p hp => Nat.ne_of_lt (Heap.lt_size (N' p hp).1)
theorem menu_V {value slice : PySem.Expr} {k : Int} {u : Tok} {Q : Value → Shared → Prop} (N : News h₀ L s.heap news) (hm : (T, lisO #[.none, .bool true] c) ∈ news) (h0 : 0 ≤ k) (h1 : k < 2)
    (h : ∀ v, v = .none ∨ v = .bool true → Q v s) (hs : subscripted slice false (.ref T) (.int k u) = operate [.ref T, .int k u] (getItem (.ref T) (.int k u)) := by with_unfolding_all rfl) :
    wpAny (model prg w) A (subscriptTail value slice (.ref T) (.int k u)) Q E s := by
  have hl : s.heap.IsList T #[.none, .bool true] := ⟨_, (N _ hm).1, rfl, c, rfl⟩
  refine tail_any hl.typeIs slot_list_getitem.lookup (wpAny_getItem_list hl h0 (by omega) (x := if k = 0 then .none else .bool true) ?_ (h _ ?_)) hs
  · rcases (show k = 0 ∨ k = 1 by omega) with rfl | rfl <;> rfl
  · split <;> simp
noncomputable def isStrD : PyData → Bool
  | .str _ => true
  | _ => false
theorem isStr_of {d : PyData} (h : Has w news v d) (hd : isStrD d = true) : ∃ x t, v = .str x t ∧ d = .str x := by
  cases h <;> simp [isStrD] at hd
  exact ⟨_, _, rfl, rfl⟩
theorem inst_V {d : PyData} {Q : Value → Shared → Prop} (N : News h₀ L s.heap news) (hv' : Has w news' v d) (hs : ∀ p ∈ news', p ∈ news) (h : ∀ tk, Q (.bool (isStrD d)) { s with toks := tk }) : wpAny (model prg w) A (call (.builtin "isinstance") [v, .type "str"]) Q E s := by
  have hv := hv'.sub hs
  cases hv with
  | none => exact IsiPair.NoneType_str (h _)
  | bool b => exact IsiPair.bool_str (h _)
  | int i t => exact IsiPair.int_str (h _)
  | str x t => exact IsiPair.str_str (h s.toks)
  | list h1 _ _ => exact IsiPair.list_str (N _ h1).1 rfl (h _)
  | tuple h1 _ => exact IsiPair.tuple_str (N _ h1).1 rfl (h _)
  | dict h1 _ h3 _ => exact IsiPair.dict_str (N _ h1).1 (by obtain ⟨es, ep, hx, _⟩ := h3; exact hx.1) (h _)
noncomputable abbrev signsL : List Nat := [39, 34, 92, 32, 10, 35, 36, 97, 61, 127]
theorem sign_good {k : Nat} (h : k ∈ signsL) : GoodC k :=
  (by unfold GoodC; decide : ∀ k ∈ signsL, GoodC k) k h
theorem sign_V {value slice : PySem.Expr} {k : Int} {t u : Tok} {x : Str} {Q : Value → Shared → Prop} (hx : x = tx signsL) (h0 : 0 ≤ k) (h1 : k < 10)
    (h : ∀ c tk, c ∈ signsL → Q (.str (tx [c]) s.toks) { s with toks := tk }) (hs : subscripted slice false (.str x t) (.int k u) = operate [.str x t, .int k u] (getItem (.str x t) (.int k u)) := by with_unfolding_all rfl) :
    wpAny (model prg w) A (subscriptTail value slice (.str x t) (.int k u)) Q E s := by
  subst hx
  have hk : k.toNat < 10 := by omega
  have hall : ∀ n, n < 10 → signsL.toArray[n]? = some (signsL.getD n 0) ∧ signsL.getD n 0 ∈ signsL := by decide +kernel
  refine tail_any (T := "str") (typeIs_str s _ t) PySem.F.slot_str_getitem.lookup (P.getItem_str (c := signsL.getD k.toNat 0) ?_ ?_ (h _ _ (hall _ hk).2)) hs
  · simp; omega
  · show (seqIndex? k 10).bind _ = _
    rw [seqIndex_of h0 (by omega)]
    exact (hall _ hk).1
theorem sign_plus {x : Str} {k : Nat} {t u : Tok} {Q : Value → Shared → Prop} (hz : x.length ≤ 4000) (h : ∀ t' n, Q (.str (tx (sg x ++ [k])) t') { s with toks := n }) : wpAny (model prg w) A (binaryOp .Add (.str x t) (.str (tx [k]) u)) Q E s := by
  have e := tx_sg x
  have e2 : x.length = (sg x).length := by simp [sg, Str.length]
  generalize sg x = y at *
  subst e
  exact tx_plus (by simp; omega) h
theorem str_short {i : Nat} {ds : List PyData} {x : Str} (h : TInv i ds) (hi : i ≤ 12) (hd : ds.getLast? = some (.str x)) : x.length ≤ 4000 := by
  obtain ⟨pre, rfl⟩ := List.getLast?_eq_some_iff.mp hd
  have hb := h.bound hi
  have h1 := esc_pos (sg x)
  have h3 : x.length = (sg x).length := by simp [sg, Str.length]
  rw [costL_app] at hb
  simp only [costL] at hb
  rw [rl_str] at hb
  omega
/-! dict(zip(..)) over the ledger -/
noncomputable abbrev zipO (TI TO : Addr) : Obj := { cls := .type "zip", dict := none, data := .fields #[.none, .bool false, .bool false, .ref TI, .ref TO], slots := #[] }
noncomputable abbrev pairO (a b : Value) : Obj := { cls := .type "tuple", data := .seq #[a, b] }
noncomputable def ZipIs (z TI TO i1 i2 l1 l2 : Addr) (o1 o2 : Obj) : Prop := ZipApart z TI TO i1 i2 l1 l2 ∧ o1.cls = .type "list_iterator" ∧ o1.data = .fields #[.ref l1, .int 0 0] ∧ o2.cls = .type "list_iterator" ∧ o2.data = .fields #[.ref l2, .int 0 0]
theorem zip_V {l1 l2 : Addr} {xs ys : List Value} {c1 c2 : Nat} {Q : Value → Shared → Prop} (F : Fr h₀ L s.heap m) (N : News h₀ L s.heap news) (hm1 : (l1, lisO xs.toArray c1) ∈ news) (hm2 : (l2, lisO ys.toArray c2) ∈ news)
    (h : ∀ z TI TO i1 i2 o1 o2 h', ZipIs z TI TO i1 i2 l1 l2 o1 o2 → (∀ p ∈ news, p.1 ≠ z ∧ p.1 ≠ TO ∧ p.1 ≠ i1 ∧ p.1 ≠ i2) → Fr h₀ L h' m → News h₀ L h' ((z, zipO TI TO) :: (TI, pairO (.ref i1) (.ref i2)) :: (TO, pairO .none .none) :: (i1, o1) :: (i2, o2) :: news) → Q (.ref z) { s with heap := h' }) :
    wpAny (model prg w) A (call (.type "zip") [.ref l1, .ref l2]) Q E s := by
  have hl1 : s.heap.IsList l1 xs.toArray := ⟨_, (N _ hm1).1, rfl, c1, rfl⟩
  have hl2 : s.heap.IsList l2 ys.toArray := ⟨_, (N _ hm2).1, rfl, c2, rfl⟩
  have lt1 : @LT.lt Nat _ l1 s.heap.objs.size := Heap.lt_size (N _ hm1).1
  have lt2 : @LT.lt Nat _ l2 s.heap.objs.size := Heap.lt_size (N _ hm2).1
  refine call_zip_2 hl1 hl2 fun h' hz hTI hTO hi1 hi2 hsz hk => ?_
  obtain ⟨o1, g1, c1, d1⟩ := hi1
  obtain ⟨o2, g2, c2, d2⟩ := hi2
  have F' : Fr h₀ L h' m := F.keeps hk
  have N' := N.grown hk
  have hL : @LT.lt Nat _ L s.heap.objs.size := F.ns.lt
  have hab : @LE.le Nat _ h₀.objs.size s.heap.objs.size := Nat.le_trans F.above (Nat.le_of_lt hL)
  have none_of : ∀ a : Addr, @LE.le Nat _ s.heap.objs.size a → h₀.get? a = none := fun a ha => by
    cases e : h₀.get? a with
    | none => rfl
    | some o => exact absurd (Nat.lt_of_lt_of_le (Heap.lt_size e) hab) (Nat.not_lt.mpr ha)
  have new : ∀ (a : Addr) (o : Obj), @LE.le Nat _ s.heap.objs.size a → h'.get? a = some o → h'.get? a = some o ∧ a ≠ L ∧ h₀.get? a = none := fun a o ha e => ⟨e, Nat.ne_of_gt (Nat.lt_of_lt_of_le hL ha), none_of a ha⟩
  refine h _ _ _ _ _ _ _ _ ⟨W.ktu_apart _ _ _ lt1 lt2, c1, d1, c2, d2⟩ (fun p hp => ?_) F' (fun p hp => ?_)
  · have q : @LT.lt Nat _ p.1 s.heap.objs.size := Heap.lt_size (N p hp).1
    refine ⟨?_, ?_, ?_, ?_⟩ <;> (refine @Nat.ne_of_lt _ _ ?_; omega)
  · rcases List.mem_cons.mp hp with rfl | hp
    · exact new _ _ (Nat.le_add_right _ _) hz
    rcases List.mem_cons.mp hp with rfl | hp
    · exact new _ _ (Nat.le_add_right _ _) hTI
    rcases List.mem_cons.mp hp with rfl | hp
    · exact new _ _ (Nat.le_add_right _ _) hTO
    rcases List.mem_cons.mp hp with rfl | hp
    · exact new _ _ (Nat.le_refl _) g1
    rcases List.mem_cons.mp hp with rfl | hp
    · exact new _ _ (Nat.le_add_right _ _) g2
    exact N' p hp
theorem zip_keys : ∀ (ks : List MK) (ys : List Value), (ks.zip ys).map (·.1) = ks.take ys.length
  | [], ys => by simp
  | k :: r, [] => by simp
  | k :: r, y :: q => by rw [List.zip_cons_cons, List.map_cons, zip_keys r q]; rfl
theorem keys3_zip {ys : List Value} (hn : ys.length ≤ 3) : (keys3.zip ys).length = ys.length ∧ ((keys3.zip ys).map (·.1)).Nodup := by
  have e1 : (keys3.zip ys).length = ys.length := by rw [List.length_zip]; show min 3 ys.length = _; omega
  refine ⟨e1, ?_⟩
  rw [zip_keys]
  exact List.Nodup.sublist (List.take_sublist _ _) (by decide +kernel)
theorem dict_V {z TI TO i1 i2 l1 l2 : Addr} {o1 o2 : Obj} {t1 t2 t3 : Tok} {ys : List Value} {c1 c2 : Nat} {Q : Value → Shared → Prop} (F : Fr h₀ L s.heap m)
    (N : News h₀ L s.heap ((z, zipO TI TO) :: (TI, pairO (.ref i1) (.ref i2)) :: (TO, pairO .none .none) :: (i1, o1) :: (i2, o2) :: news)) (Z : ZipIs z TI TO i1 i2 l1 l2 o1 o2) (hoff : ∀ p ∈ news, p.1 ≠ z ∧ p.1 ≠ TO ∧ p.1 ≠ i1 ∧ p.1 ≠ i2) (hh : A.handled = none)
    (hm1 : (l1, lisO ([.str (Str.ofString "k y") t1, .int 7 t2, .str (Str.ofString "it's") t3] : List Value).toArray c1) ∈ news) (hm2 : (l2, lisO ys.toArray c2) ∈ news) (hn : ys.length ≤ 3) (h1 : @LT.lt Nat _ 1 l2)
    (h : ∀ D o h' tk, Fr h₀ L h' m → News h₀ L h' ((D, o) :: news) → (∀ p ∈ news, @Ne Nat p.1 D) → @LT.lt Nat _ 1 D → o.IsDictOf (mixKind w) (keys3.zip ys) → Q (.ref D) { s with heap := h', toks := tk }) :
    wpAny (model prg w) A (call (.type "dict") [.ref z]) Q E s := by
  have hz3 := sizeLine_eq
  obtain ⟨D, c1', d1, c2', d2⟩ := Z
  obtain ⟨hl, hnd⟩ := keys3_zip hn
  have N0 : News h₀ L s.heap news := fun p hp => N p (by simp [hp])
  have gz := N (z, zipO TI TO) (by simp)
  have gTO := N (TO, pairO .none .none) (by simp)
  have g1 := N (i1, o1) (by simp)
  have g2 := N (i2, o2) (by simp)
  have lt1 : ∀ p ∈ news, @LT.lt Nat _ p.1 s.heap.objs.size := fun p hp => Heap.lt_size (N0 p hp).1
  refine call_dict_zip (knd := mixKind w) (kv := keys3.zip ys) (xs := ([.str (Str.ofString "k y") t1, .int 7 t2, .str (Str.ofString "it's") t3] : List Value).toArray) (ys := ys.toArray) hh D (fun i k v hi => ?_) (.inr ?_) hnd (by rw [hl]; omega)
    gz.1 (N (TI, pairO (.ref i1) (.ref i2)) (by simp)).1 gTO.1 ⟨o1, g1.1, c1', d1⟩ ⟨o2, g2.1, c2', d2⟩ ⟨_, (N0 _ hm1).1, rfl, c1, rfl⟩ ⟨_, (N0 _ hm2).1, rfl, c2, rfl⟩ fun h' tk hd hk => ?_
  · rw [List.getElem?_zip_eq_some] at hi
    obtain ⟨a, b⟩ := hi
    have hy : ys.toArray[i]? = some v := by simpa using b
    match i, a with
    | 0, a => cases a; exact ⟨_, rfl, hy, by simp [mixKind, mixIs, Value.isStrOf]⟩
    | 1, a => cases a; exact ⟨_, rfl, hy, by simp [mixKind, mixIs, Value.isInt]⟩
    | 2, a => cases a; exact ⟨_, rfl, hy, by simp [mixKind, mixIs, Value.isStrOf]⟩
    | n + 3, a => simp [keys3] at a
  · rw [hl]; simp
  · obtain ⟨o, ho, hdo⟩ := Heap.dictOf_iff.mp hd
    have hL : @LT.lt Nat _ L s.heap.objs.size := F.ns.lt
    have hab : @LE.le Nat _ h₀.objs.size s.heap.objs.size := Nat.le_trans F.above (Nat.le_of_lt hL)
    have keepL : ∀ c o, c = L ∨ (∃ o', h₀.get? c = some o') → s.heap.get? c = some o → h'.get? c = some o := fun c o hc e => by
      have ne : ∀ x, x ≠ L → h₀.get? x = none → c ≠ x := fun x x1 x2 q => by
        subst q
        rcases hc with hc | ⟨o', hc⟩
        · exact x1 hc
        · rw [x2] at hc; cases hc
      exact hk c o (ne _ gz.2.1 gz.2.2) (ne _ gTO.2.1 gTO.2.2) (ne _ g1.2.1 g1.2.2) (ne _ g2.2.1 g2.2.2) e
    have N' : News h₀ L h' news := fun p hp => by
      obtain ⟨a, b, c, d⟩ := hoff p hp
      exact ⟨hk _ _ a b c d (N0 p hp).1, (N0 p hp).2⟩
    refine h _ o h' tk ⟨F.ns.at' fun o e => keepL _ o (.inl rfl) e, fun b o e => keepL b o (.inr ⟨_, e⟩) (F.keep b o e), F.above⟩ (fun p hp => ?_) (fun p hp => Nat.ne_of_lt (lt1 p hp)) (Nat.lt_trans h1 (lt1 _ hm2)) hdo
    rcases List.mem_cons.mp hp with rfl | hp
    · refine ⟨ho, Nat.ne_of_gt hL, ?_⟩
      cases e : h₀.get? s.heap.objs.size with
      | none => rfl
      | some o => exact absurd (Nat.lt_of_lt_of_le (Heap.lt_size e) hab) (Nat.lt_irrefl _)
    · exact N' p hp
end


theorem kw23 : True := by
  k_with_none
  k_with "n ktr_enter" => (refine' code_def ?k1 ?k2 ?k3 ?k4 ?k5 ?kA ?kF ?kK ?k6 ?k7 ?k8 ?k9 ?kB ?_ ?c2 ?c3 ?c4 ?c5; (case kA => exact rfl); (case kF => exact rfl); (case kK => assumption); (case k1 => k_asm); (case k2 => k_asm); (case k3 => k_asm); (case k4 => k_asm); (case k5 => k_asm); (case k6 => k_is); (case k7 => k_is); (case k8 => ktr_room); (case k9 => first | (ktr_unf; done) | exact BindsTo.of_eq rfl | exact binds_K (by k_in) rfl (by k_is) rfl rfl rfl); (case c5 => decide); (case kB => exact locs rfl); (case c2 => exact rfl); (case c3 => exact rfl); (case c4 => exact rfl); k_whole; intro _ _ _ _ _ _ _ _ _; (try dsimp only); (try k_fold))
  k_with "n k_room" => ktr_room
  k_with "n k_units" => ktr_units
  k_with "n ktr_units" => ((try simp only [units_under_kw, units_in1, units_deeper, Around.mark_units, units_caller]); (try dsimp only [ktrTop]); first | exact lim0 hun | exact lim1 hun rfl | exact lim2 hun rfl | exact lim3 hun rfl | exact lim4 hun rfl | exact lim5 hun rfl | exact limA hun rfl | exact limB hun rfl | ((have hcL9 := cLine_is); omega))
  k_with "n ktr_room" => ((try simp only [depth_under_make, depth_under_kw, depth_in1, depth_deeper, depth_caller]); (try dsimp only [ktrTop]); first | exact lim0 hdp | exact lim1 hdp rfl | exact lim2 hdp rfl | exact lim3 hdp rfl | exact lim4 hdp rfl | exact lim5 hdp rfl | exact limA hdp rfl | exact limB hdp rfl | exact lim0 hdp' | exact lim1 hdp' rfl | exact lim2 hdp' rfl | exact lim3 hdp' rfl | exact lim4 hdp' rfl | exact lim5 hdp' rfl | omega)
  k_with "n k_mem" => assumption
  k_with "eval ListComp" => (k_here; k_dflt (refine ListComp_str (F₀ := by k_asm) (by with_unfolding_all rfl) (by decide) (by rfl) (by decide) (by rfl) ?_))
  k_with "call builtin:str.join" => (k_here; k_dflt (refine' join_texts ?kN ?km ?kt ?kb ?kn ?_; (case kN => k_asm); (case kt => assumption); (case km => exact List.Mem.head _); (case kb => first | exact esc_len _ | exact tol_len _); (case kn => (rw [List.length_map]; assumption)); k_whole); intro t' tk')
  k_with "call builtin:list.append" => (k_here; (with_reducible show wpAny _ _ (call (Value.builtin _) [Value.ref _, _]) _ _ _); k_dflt (refine' append_K ?k1 ?k2 ?k3 ?_ ?z; (case k1 => k_asm); (case k2 => k_asm); (case k3 => k_upd); (case z => assumption); k_whole); intro h' F' N'; (try k_sweep))
  k_with "getItem ref int" => (k_here; (with_reducible show wpAny _ _ (getItem (Value.ref _) (Value.int (-1) _)) _ _ _); k_dflt (refine' get_last ?k1 ?k2 ?k3 ?_; (case k1 => k_asm); (case k2 => k_mem); (case k3 => omega); k_whole))
  k_with "setItem ref int" => (k_here; (with_reducible show wpAny _ _ (setItem (Value.ref _) (Value.int (-1) _) _) _ _ _); k_dflt (refine' set_last ?k1 ?k2 ?k3 ?k4 ?_; (case k1 => k_asm); (case k2 => k_asm); (case k3 => k_upd); (case k4 => omega); k_whole); intro h' F' N'; (try k_sweep))
  k_with "inplaceOp Add str str" => (k_here; k_dflt (refine' iadd_str ?_ ?rZ; (case rZ => assumption); k_whole); intro t' tk')
  k_with "exec For Tuple Name cons nil" => (k_here; refine stop_intro ?_)
  k_with "call builtin:repr" => (k_here; k_dflt (refine' repr_has ?k1 ?k2 ?k3 ?k4 ?k5 ?k6 ?k7 ?k8 ?_; (case k1 => k_asm); (case k2 => k_asm); (case k3 => assumption); (case k4 => assumption); (case k5 => assumption); (case k6 => assumption); (case k7 => exact rfl); (case k8 => ktr_units); k_whole); intro h' t' tk' F' N')
  k_with "call ref" => (k_here; (with_reducible show wpAny _ _ (call (Value.ref 754) _) _ _ _); k_dflt (refine' text_call ?kX ?k1 ?k2 ?k3 ?k4 ?k5 ?kK ?kd ?ku ?_; (case kX => assumption); (case kK => exact rfl); (case k1 => k_asm); (case k2 => k_asm); (case k3 => k_asm); (case k4 => k_asm); (case k5 => k_asm); (case kd => ktr_room); (case ku => ktr_units)); k_dflt (intro T9' n9' t1' t2' t3' nw' h' tk' F' N' hm9' hs9'))
  k_with "call type:str" => (k_here; (with_reducible show wpAny _ _ (call (Value.type _) [Value.int _ _]) _ _ _); k_dflt (refine P.str_of_int (by assumption) ?_))
  k_with "n k_mem" => first | with_reducible assumption | exact List.Mem.head _ | (refine mem_up (by with_reducible assumption) ?_; k_mem) | (refine' List.Mem.tail _ ?_; k_mem)
  k_with "call builtin:len" => (k_here; (with_reducible show wpAny _ _ (call (Value.builtin _) [Value.ref _]) _ _ _); k_dflt (first | (refine' len_tup ?k1 ?k2 ?k3 ?_; (case k1 => k_asm); (case k2 => k_mem); (case k3 => assumption); k_whole) | (refine' len_lis ?k1 ?k2 ?k3 ?_; (case k1 => k_asm); (case k2 => k_mem); (case k3 => assumption); k_whole)))
  k_with "call ref" => (k_here; (with_reducible show wpAny _ _ (call (Value.ref 761) _) _ _ _); k_dflt (refine' pieces_call (by assumption) ?kS ?k1 ?k2 ?k3 ?k4 ?k5 ?kK ?kd ?ku ?_; (case kK => exact rfl); (case k1 => k_asm); (case k2 => k_asm); (case k3 => k_asm); (case k4 => k_asm); (case k5 => k_asm); (case kS => (intro p9' hp9'; k_mem)); (case kd => ktr_room); (case ku => ktr_units)); k_dflt (intro S9' vs9' c9' nw' h' tk' F' N' hs9' hm9' hp9' hl9'))
  k_with "binaryOp Add ref ref" => (k_here; (with_reducible show wpAny _ _ (binaryOp _ (Value.ref _) (Value.ref _)) _ _ _); k_dflt (refine' add_two ?k1 ?k2 ?k3 ?k4 ?k5 ?_; (case k1 => k_asm); (case k2 => k_asm); (case k3 => k_mem); (case k4 => k_mem); (case k5 => ((try simp only [List.length_cons, List.length_nil, List.length_append]); omega)); k_whole); intro D' h' F' N' l1; (try k_sweep))
  k_with "exec For Name Name cons nil" => (k_here; refine stop_intro ?_)
  k_with "subscriptTail" => (k_here; (with_reducible show wpAny _ _ (subscriptTail _ _ (Value.ref _) _) _ _ _); k_dflt (refine' tab_item ?k1 ?k2 ?k3 ?k4 ?k5 ?_ ?k6 ?k7; (case k1 => k_asm); (case k3 => with_reducible assumption); (case k4 => with_reducible assumption); (case k5 => with_reducible assumption); (case k2 => k_mem); (case k6 => with_unfolding_all rfl); (case k7 => (intro _; with_unfolding_all rfl)); k_whole))
  trivial
/-! _law_things -/
/-- a contract of a def of the script -/
noncomputable def SpI (w : World) (f l : Addr) (vs : List Value) (news : Led) (dN uN : Nat) (Post : Value → Led → Prop) : Prop :=
  ∀ (p : Program) (loose : List Str) (mean : ExcName → Option Value) (mg mb : Str → Option Value) (dp un : Nat) (cn : Str) (cs : Scope) (a : Addr) (ccd : Value) (cl : List (Str × Addr)) (outer : List Env) (A₀ : Around) (base h₀ : Heap) (L : Addr) (m : Str → Option Value) (s : Shared) (Q E : Value → Shared → Prop),
    Below A₀ base outer h₀ → Fr h₀ L s.heap m → (hd.heap_1 w.params).In h₀ → News h₀ L s.heap news → Top p loose mean mg mb h₀ → cs.kind = .function → h₀.IsList l vs.toArray → dp + dN < recursionLimit → un + uN < cLine →
    (∀ r news' h' tk', Fr h₀ L h' m → News h₀ L h' news' → Post r news' → Q r { s with heap := h', toks := tk' }) →
    wpAny (model prg w) (ktrTop dp un (some []) cn cs L a ccd cl outer) (call (.ref f) [.ref l]) Q E s
/-- what the loop of _law_things keeps -/
inductive thJ (w : World) (lS : Addr) (oS : Obj) (news : Led) (i : Nat) (m' : Str → Option Value) (nx : Led) : Prop
  | mk (T : Addr) (us : List Value) (c : Nat) (ds : List PyData) (rest : Led) (e1 : m' (Str.ofString "things") = some (.ref T)) (en : nx = (T, lisO us.toArray c) :: rest) (hne : ∀ p ∈ rest, @Ne Nat p.1 T) (h1 : @LT.lt Nat _ 1 T) (hs : Sub news rest) (hm : (lS, oS) ∈ rest) (hall : HasAll w rest us ds) (hP : TInv i ds) : thJ w lS oS news i m' nx
theorem thJ_elim {w : World} {g h : Heap} {L lS : Addr} {oS : Obj} {news nx : Led} {i : Nat} {m : Str → Option Value} {G : Prop} (j : thJ w lS oS news i m nx) (F : Fr g L h m)
    (k : ∀ (T : Addr) (us : List Value) (c : Nat) (ds : List PyData) (rest : Led), Fr g L h (fun y => if y = Str.ofString "things" then some (.ref T) else m y) → nx = (T, lisO us.toArray c) :: rest → (∀ p ∈ rest, @Ne Nat p.1 T) → @LT.lt Nat _ 1 T → Sub news rest → (lS, oS) ∈ rest → HasAll w rest us ds → TInv i ds → G) : G := by
  cases j with
  | mk T us c ds rest e1 en hne h1 hs hm hall hP => exact k T us c ds rest (fr_put F e1) en hne h1 hs hm hall hP
theorem thJ_mem {w : World} {lS : Addr} {oS : Obj} {news nx : Led} {i : Nat} {m : Str → Option Value} (j : thJ w lS oS news i m nx) : (lS, oS) ∈ nx := by
  cases j with
  | mk T us c ds rest e1 en hne h1 hs hm => rw [en]; exact List.mem_cons_of_mem _ hm
theorem costL_len : ∀ ds : List PyData, ds.length ≤ costL ds
  | [] => Nat.zero_le _
  | d :: r => by have := costL_len r; simp only [List.length_cons, costL]; omega
theorem HasAll.last {w : World} {led : Led} {us : List Value} {ds : List PyData} (h : HasAll w led us ds) (hne : ds ≠ []) : ∃ v d, us.getLast? = some v ∧ ds.getLast? = some d ∧ Has w led v d := by
  have hl := h.length
  have h0 : 0 < ds.length := List.length_pos_iff.mpr hne
  obtain ⟨d, hd, hv⟩ := h.get (i := us.length - 1) (v := us[us.length - 1]'(by omega)) (List.getElem?_eq_getElem _)
  refine ⟨_, d, ?_, ?_, hv⟩
  · rw [List.getLast?_eq_getElem?]; exact List.getElem?_eq_getElem _
  · rw [List.getLast?_eq_getElem?, ← hl]; exact hd
theorem HasAll.append {w : World} {led : Led} : ∀ {us vs : List Value} {ds es : List PyData}, HasAll w led us ds → HasAll w led vs es → HasAll w led (us ++ vs) (ds ++ es)
  | _, _, _, _, .nil, h => h
  | _, _, _, _, .cons h1 h2, h => .cons h1 (HasAll.append h2 h)
theorem HasAll.take {w : World} {led : Led} : ∀ {us : List Value} {ds : List PyData}, HasAll w led us ds → ∀ k, HasAll w led (us.take k) (ds.take k)
  | _, _, .nil, k => by simp; exact .nil
  | _, _, .cons h1 h2, 0 => .nil
  | _, _, .cons h1 h2, k + 1 => .cons h1 (HasAll.take h2 k)
theorem HasAll.drop {w : World} {led : Led} : ∀ {us : List Value} {ds : List PyData}, HasAll w led us ds → ∀ k, HasAll w led (us.drop k) (ds.drop k)
  | _, _, .nil, k => by simp; exact .nil
  | _, _, .cons h1 h2, 0 => .cons h1 h2
  | _, _, .cons h1 h2, k + 1 => HasAll.drop h2 k
theorem HasAll.sub {w : World} {led led' : Led} {us : List Value} {ds : List PyData} (h : HasAll w led us ds) (hs : ∀ p ∈ led, p ∈ led') : HasAll w led' us ds := h.mono fun a o hm _ => hs _ hm
theorem HasAll.one {w : World} {led : Led} {v : Value} {d : PyData} (h : Has w led v d) : HasAll w led [v] [d] := .cons h .nil
theorem led_swap {a b : Addr × Obj} {l : Led} (p : Addr × Obj) (h : p ∈ a :: b :: l) : p ∈ b :: a :: l := by
  rcases List.mem_cons.mp h with rfl | h
  · exact List.mem_cons_of_mem _ List.mem_cons_self
  rcases List.mem_cons.mp h with rfl | h
  · exact List.mem_cons_self
  · exact List.mem_cons_of_mem _ (List.mem_cons_of_mem _ h)
theorem th_end {w : World} {g h' : Heap} {L : Addr} {s : Shared} {I lS T' : Addr} {oI oS : Obj} {Q : Flow → Shared → Prop} {tk' : Nat} {m' : Str → Option Value} {led rest' news : Led} {i c' : Nat} {us' : List Value} {ds' : List PyData} (F : Fr g L h' m') (N : News g L h' led)
    (hsub : ∀ p ∈ (I, oI) :: (T', lisO us'.toArray c') :: rest', p ∈ led) (hI : @Ne Nat T' I) (hnI : ∀ p ∈ rest', @Ne Nat p.1 I) (e : m' (Str.ofString "things") = some (.ref T')) (hne : ∀ p ∈ rest', @Ne Nat p.1 T') (h1 : @LT.lt Nat _ 1 T') (hs : Sub news rest') (hm : (lS, oS) ∈ rest') (hall : HasAll w rest' us' ds') (hP : TInv (i + 1) ds') :
    TurnTo g L s I oI (thJ w lS oS news (i + 1)) Q .next { s with heap := h', toks := tk' } :=
  TurnTo.go F N hsub (fun p hp => by
    rcases List.mem_cons.mp hp with rfl | hp
    · exact hI
    · exact hnI p hp) ⟨T', us', c', ds', rest', e, rfl, hne, h1, hs, hm, hall, hP⟩
theorem perm3 {x a b : Addr × Obj} {l : Led} : ∀ p ∈ x :: a :: b :: l, p ∈ a :: b :: x :: l := fun p hp => by
  simp only [List.mem_cons] at hp ⊢
  rcases hp with h | h | h | h <;> simp only [h, true_or, or_true]
theorem perm4 {x a b c : Addr × Obj} {l : Led} : ∀ p ∈ x :: a :: b :: c :: l, p ∈ b :: a :: c :: x :: l := fun p hp => by
  simp only [List.mem_cons] at hp ⊢
  rcases hp with h | h | h | h | h <;> simp only [h, true_or, or_true]
theorem perm5 {x a b c d : Addr × Obj} {l : Led} : ∀ p ∈ x :: a :: b :: c :: d :: l, p ∈ b :: c :: a :: d :: x :: l := fun p hp => by
  simp only [List.mem_cons] at hp ⊢
  rcases hp with h | h | h | h | h | h <;> simp only [h, true_or, or_true]
/-- the end of a turn that wraps -/
theorem th_wrap {w : World} {g h' : Heap} {L : Addr} {s : Shared} {I lS T T' : Addr} {oI oS : Obj} {Q : Flow → Shared → Prop} {tk' : Nat} {m' : Str → Option Value} {led X rest news : Led} {i c c' k : Nat} {us : List Value} {ds : List PyData} {v : Value} {d : PyData} (F : Fr g L h' m') (N : News g L h' led)
    (hsub : ∀ p ∈ (I, oI) :: (T', lisO (us.take k ++ [v]).toArray c') :: (X ++ (T, lisO us.toArray c) :: rest), p ∈ led) (hX : ∀ p ∈ (I, oI) :: X, @Ne Nat p.1 T') (hXI : ∀ p ∈ X, @Ne Nat p.1 I) (hnI : ∀ p ∈ (T, lisO us.toArray c) :: rest, @Ne Nat p.1 I) (hT : ∀ p ∈ (T, lisO us.toArray c) :: rest, @Ne Nat p.1 T')
    (e : m' (Str.ofString "things") = some (.ref T')) (h1 : @LT.lt Nat _ 1 T') (hs : Sub news rest) (hm : (lS, oS) ∈ rest) (hall : HasAll w rest us ds) (hv : Has w (X ++ (T, lisO us.toArray c) :: rest) v d) (hP : TInv (i + 1) (ds.take k ++ [d])) :
    TurnTo g L s I oI (thJ w lS oS news (i + 1)) Q .next { s with heap := h', toks := tk' } := by
  have up : Sub rest (X ++ (T, lisO us.toArray c) :: rest) := fun p hp => List.mem_append.mpr (.inr (List.mem_cons_of_mem _ hp))
  refine th_end F N hsub (Ne.symm (hX _ List.mem_cons_self)) (fun p hp => ?_) e (fun p hp => ?_) h1 (fun p hp => up p (hs p hp)) (up _ hm) (((hall.take k).sub up).append (.one hv)) hP
  · rcases List.mem_append.mp hp with hp | hp
    · exact hXI p hp
    · exact hnI p hp
  · rcases List.mem_append.mp hp with hp | hp
    · exact hX p (List.mem_cons_of_mem _ hp)
    · exact hT p hp
theorem hasKv_zip {w : World} {led : Led} : ∀ {ks : List MK} {us : List Value} {ds : List PyData}, HasAll w led us ds → HasKv w led (ks.zip us) ((ks.map encK).zip ds)
  | [], _, _, _ => by simp; exact .nil
  | k :: r, _, _, .nil => by simp; exact .nil
  | k :: r, _, _, .cons h1 h2 => by
    simp only [List.map_cons, List.zip_cons_cons]
    exact .cons h1 (hasKv_zip h2)
theorem HasAll.init {w : World} {led : Led} {us : List Value} {ds : List PyData} (h : HasAll w led us ds) : HasAll w led us.dropLast ds.dropLast := by
  rw [List.dropLast_eq_take, List.dropLast_eq_take, ← h.length]
  exact h.take _
theorem empty_good : GoodD (.str (Str.ofString "")) ∧ rl (.str (Str.ofString "")) ≤ 20 ∧ (PyData.str (Str.ofString "")).depth = 0 := by
  have e : sg (Str.ofString "") = [] := by decide +kernel
  refine ⟨?_, ?_, by simp only [PyData.depth]⟩
  · simp only [GoodD]; rw [e]; simp [GoodS]
  · rw [rl_str, e]; simp
theorem thing_int {i : Int} (h0 : -500 ≤ i) (h1 : i < 9500) : GoodD (.int i) ∧ rl (.int i) ≤ 20 ∧ (PyData.int i).depth = 0 := by
  have h2 : i.natAbs < 10 ^ 4 := by omega
  refine ⟨?_, ?_, by simp only [PyData.depth]⟩
  · simp only [GoodD]
    by_cases hz : i.natAbs = 0
    · rw [hz]; decide
    · exact Nat.lt_trans ((Nat.log2_lt hz).mpr (show i.natAbs < 2 ^ 14 by omega)) (by decide)
  · have h3 := int_text_length_le10 (k := 4) (by decide) h2
    have h4 : (Str.ofString (toString i)).length = (toString i).length := PySem.ofString_length _
    simp only [rl, pcs, rawOf, List.flatMap_cons, List.flatMap_nil, List.append_nil]
    have h5 : (sg (toString i)).length = (Str.ofString (toString i)).length := by simp [sg, Str.length]
    omega
theorem flat_good {v : Value} {w : World} {led : Led} (h : v = .none ∨ v = .bool true) : ∃ d, Has w led v d ∧ GoodD d ∧ rl d ≤ 20 ∧ d.depth = 0 := by
  rcases h with rfl | rfl
  · exact ⟨.none, .none, by simp only [GoodD], by decide +kernel, by simp only [PyData.depth]⟩
  · exact ⟨.bool true, .bool true, by simp only [GoodD], by decide +kernel, by simp only [PyData.depth]⟩
theorem has34 {x : Str} {b : Bool} (h : (Builtin.Str.occurrences x (Str.ofString "\"") 0 x.length 1).isEmpty = b) : decide (34 ∈ sg x) = !b := by
  have e1 : Str.ofString "\"" = one 34 := by decide +kernel
  rw [e1] at h
  have h2 := StrLaws.found_one (x := x) (c := 34)
  rw [h] at h2
  exact h2.symm
theorem sign_end {i : Nat} {ds : List PyData} {x : Str} {c : Nat} (h : TInv i ds) (hd : ds.getLast? = some (.str x)) (hc : c ∈ signsL) (hq : (Builtin.Str.occurrences (tx (sg x ++ [c])) (Str.ofString "'") 0 (tx (sg x ++ [c])).length 1).isEmpty = true ∨ (Builtin.Str.occurrences (tx (sg x ++ [c])) (Str.ofString "\"") 0 (tx (sg x ++ [c])).length 1).isEmpty = true) :
    TInv (i + 1) (ds.dropLast ++ [.str (tx (sg x ++ [c]))]) := by
  obtain ⟨pre, rfl⟩ := List.getLast?_eq_some_iff.mp hd
  rw [List.dropLast_concat]
  have e : sg (tx (sg x ++ [c])) = sg x ++ [c] := by simp [sg]
  refine h.sign (sign_good hc) fun ⟨a, b⟩ => ?_
  rcases hq with q | q
  · have := has39 q; rw [e] at this; simp [a] at this
  · have := has34 q; rw [e] at this; simp [b] at this
theorem fresh_end {i : Nat} {ds : List PyData} {c : Nat} (h : TInv i ds) (hc : c ∈ signsL) : TInv (i + 1) (ds ++ [.str (tx (sg (Str.ofString "") ++ [c]))]) := by
  have e : sg (Str.ofString "") = [] := by decide +kernel
  rw [e]
  exact h.fresh (sign_good hc)
theorem TInv.mono {i j : Nat} {ds : List PyData} (h : TInv i ds) (hij : i ≤ j) : TInv j ds := ⟨h.1, Nat.le_trans h.2.1 (by omega), Nat.le_trans h.2.2.1 hij, h.2.2.2⟩
theorem HasAll.over {w : World} {led : Led} {us : List Value} {ds : List PyData} {a b : Value} {d : PyData} (h : HasAll w led us ds) (hb : Has w led b d) : HasAll w led ((us ++ [a]).dropLast ++ [b]) (ds ++ [d]) := by
  rw [List.dropLast_concat]
  exact h.append (.one hb)
theorem off2 {x a : Addr × Obj} {l : Led} {D : Addr} (h : ∀ p ∈ a :: x :: l, @Ne Nat p.1 D) : ∀ p ∈ [x, a], @Ne Nat p.1 D := fun p hp => by
  simp only [List.mem_cons, List.not_mem_nil, or_false] at hp
  rcases hp with rfl | rfl
  · exact h _ (List.mem_cons_of_mem _ List.mem_cons_self)
  · exact h _ List.mem_cons_self
theorem offC {a : Addr × Obj} {l : Led} {D : Addr} (h1 : @Ne Nat a.1 D) (h : ∀ p ∈ l, @Ne Nat p.1 D) : ∀ p ∈ a :: l, @Ne Nat p.1 D := fun p hp => by
  rcases List.mem_cons.mp hp with rfl | hp
  · exact h1
  · exact h p hp
theorem offS {x a : Addr × Obj} {l : Led} {D : Addr} (h1 : @Ne Nat a.1 D) (h : ∀ p ∈ x :: l, @Ne Nat p.1 D) : ∀ p ∈ x :: a :: l, @Ne Nat p.1 D := fun p hp => by
  rcases List.mem_cons.mp hp with rfl | hp
  · exact h _ List.mem_cons_self
  · exact offC h1 (fun q hq => h q (List.mem_cons_of_mem _ hq)) p hp
theorem things_for {w : World} {A : Around} {env : Env} {h₀ : Heap} {L : Addr} {s : Shared} {Q : Flow → Shared → Prop} {E : Value → Shared → Prop} {target : PySem.Expr} {body : List Stmt} {D l' : Addr} {o' : Obj} {ws : List Value} {rest0 news : Led} {m₀ : Str → Option Value} {h : Heap} {tk : Nat}
    (F : Fr h₀ L h m₀) (N : News h₀ L h ((D, lisO ws.toArray 0) :: (l', o') :: rest0)) (h0 : thJ w D (lisO ws.toArray 0) news 0 m₀ ((l', o') :: (D, lisO ws.toArray 0) :: rest0))
    (turn : ∀ i v m₁ news₁ I oI h tk, ws[i]? = some v → thJ w D (lisO ws.toArray 0) news i m₁ news₁ → Fr h₀ L h m₁ → News h₀ L h ((I, oI) :: news₁) → (∀ p ∈ news₁, @Ne Nat p.1 I) → (∃ fs, oI.data = .fields fs) →
      ∀ R : Flow → Shared → Prop, (∀ f s₃, TurnTo h₀ L s I oI (thJ w D (lisO ws.toArray 0) news (i + 1)) Q f s₃ → R f s₃) → wpAny (model prg w) A (assign target env v) (fun _ s₂ => wpAny (model prg w) A (execs body env) R E s₂) E { s with heap := h, toks := tk })
    (done : ∀ m₁ news₁ h tk, thJ w D (lisO ws.toArray 0) news ws.length m₁ news₁ → Fr h₀ L h m₁ → News h₀ L h news₁ → Q .next { s with heap := h, toks := tk }) :
    ForAt w A env h₀ L s Q E target body (.ref D) { s with heap := h, toks := tk } :=
  ⟨D, ws, 0, m₀, _, h, tk, thJ w D (lisO ws.toArray 0) news, rfl, rfl, F, (fun p hp => N p (led_swap p hp)), (fun i m' nx j => thJ_mem j), h0, turn, done⟩
theorem things_ok (w : World) (l : Addr) (vs : List Value) (ns : List Int) (hi : IntsAre vs ns) (hn : ns.length ≤ 63) (news : Led) : SpI w 749 l vs news 10 150 (fun r news' => Sub news news' ∧ ∃ T us c ds, r = .ref T ∧ (T, lisO (us : List Value).toArray c) ∈ news' ∧ @LT.lt Nat _ 1 T ∧ HasAll w news' us ds ∧ TInv 12 ds) := by
  k_with "exec For Name Subscript cons nil" => (k_here; k_dflt (refine for_at (by k_asm) rfl ?_))
  k_with "binaryOp Mult str int" => (k_here; (with_reducible show wpAny _ _ (binaryOp Operator.Mult (Value.str _ _) (Value.int _ _)) _ _ _); k_dflt (refine dash_mul (by kxi_fact) (by kxi_fact) ?_); intro y' t' tk' hy1' hy2')
  k_with "binaryOp Add str str" => (k_here; k_dflt (refine hash_plus (by with_reducible assumption) ?_); intro t' tk')
  k_with "binaryOp Add str str" => (k_here; (with_reducible show wpAny _ _ (binaryOp _ (Value.str _ _) (Value.str (tx [_]) _)) _ _ _); k_dflt (refine' sign_plus ?k1 ?_; (case k1 => first | assumption | decide +kernel); k_whole); intro t' tk')
  k_with "exec Assign" => (k_fold; walk1)
  k_with "exec If" => (k_fold; walk1)
  k_with "exec Expr" => (k_fold; walk1)
  k_with "storeName" => (dsimp only; walk1)
  k_with "newList" => (k_here; k_dflt (refine' newList_M ?k1 ?k2 ?k3 ?k4 ?_; (case k1 => k_asm); (case k2 => k_asm); (case k3 => k_asm); (case k4 => (simp only [List.length_cons, List.length_nil]; decide)); k_whole); intro l' h' F' N' l1 l0)
  k_with "call builtin:list.append" => (k_here; k_dflt (refine' app_V ?k1 ?k2 ?k3 ?k4 ?_; (case k1 => k_asm); (case k2 => k_asm); (case k3 => k_upd); (case k4 => first | assumption | (rw [List.length_take]; omega)); k_whole); intro h' F' N'; (try k_sweep))
  k_with "subscriptTail Name Slice ref ref" => (k_here; k_dflt (refine' cut_from ?k1 ?k2 ?k3 ?k4 ?k5 ?k6 ?k7 ?k8 ?k9 ?_; (case k1 => k_asm); (case k2 => k_asm); (case k3 => k_mem); (case k4 => omega); (case k5 => omega); (case k6 => assumption); (case k7 => assumption); (case k8 => with_unfolding_all rfl); (case k9 => (intro _; with_unfolding_all rfl)); k_whole); intro D1' h' F' N' n1' q1'; (try k_sweep))
  k_with "subscriptTail Name Slice ref ref" => (k_here; k_dflt (refine' cut_to ?k1 ?k2 ?k3 ?k4 ?k6 ?k7 ?k8 ?k9 ?_; (case k1 => k_asm); (case k2 => k_asm); (case k3 => k_mem); (case k4 => omega); (case k6 => assumption); (case k7 => assumption); (case k8 => with_unfolding_all rfl); (case k9 => (intro _; with_unfolding_all rfl)); k_whole); intro D2' h' F' N' n2' q2'; (try k_sweep))
  k_with "call type:tuple" => (k_here; k_dflt (refine' tup_V ?k1 ?k2 ?k3 ?k4 ?_; (case k1 => k_asm); (case k2 => k_asm); (case k3 => k_mem); (case k4 => (rw [List.length_drop]; omega)); k_whole); intro D3' h' F' N' n3'; (try k_sweep); k_dflt (have e3' : @Ne Nat D3' D2' := fun e => n3' _ List.mem_cons_self e.symm))
  k_with "subscriptTail" => (k_here; (with_reducible show wpAny _ _ (subscriptTail _ _ (Value.ref _) (Value.int _ _)) _ _ _); k_dflt (refine' menu_V ?k1 ?k2 ?k3 ?k4 ?_ ?k5; (case k1 => k_asm); (case k2 => k_mem); (case k3 => omega); (case k4 => omega); (case k5 => with_unfolding_all rfl); k_whole); k_dflt (have e5' : @Ne Nat l' T := Nat.ne_of_gt (l1 _ (List.mem_cons_of_mem _ List.mem_cons_self))); intro v' hv')
  k_with "subscriptTail" => (k_here; (with_reducible show wpAny _ _ (subscriptTail _ _ (Value.ref _) (Value.int (-1) _)) _ _ _); k_dflt (refine' last_T ?k1 ?k2 ?k3 ?k4 ?_ ?k5; (case k1 => k_asm); (case k2 => k_mem); (case k3 => first | assumption | exact List.getLast?_concat); (case k4 => first | assumption | (simp only [List.length_append, List.length_cons, List.length_nil]; omega)); (case k5 => with_unfolding_all rfl); k_whole))
  k_with "subscriptTail" => (k_here; (with_reducible show wpAny _ _ (subscriptTail _ _ (Value.str _ _) (Value.int _ _)) _ _ _); k_dflt (refine' sign_V ?k1 ?k2 ?k3 ?_ ?k5; (case k1 => decide +kernel); (case k2 => omega); (case k3 => omega); (case k5 => with_unfolding_all rfl); k_whole); intro c' tk' hc')
  k_with "call builtin:isinstance" => (k_here; k_dflt (refine' inst_V ?k1 ?k2 ?k3 ?_; (case k1 => k_asm); (case k2 => assumption); (case k3 => (intro p9 hp9; k_mem)); k_whole); intro tk')
  k_with "setItem ref int" => (k_here; (with_reducible show wpAny _ _ (setItem (Value.ref _) (Value.int (-1) _) _) _ _ _); k_dflt (refine' put_V ?k1 ?k2 ?k3 ?k4 ?k5 ?_; (case k1 => k_asm); (case k2 => k_asm); (case k3 => k_upd); (case k4 => first | assumption | exact List.getLast?_concat); (case k5 => first | assumption | (simp only [List.length_append, List.length_cons, List.length_nil]; omega)); k_whole); intro h' F' N'; (try k_sweep))
  k_with "call type:zip" => (k_here; k_dflt (refine' zip_V ?k1 ?k2 ?k3 ?k4 ?_; (case k1 => k_asm); (case k2 => k_asm); (case k3 => k_mem); (case k4 => k_mem); k_whole); intro z' TI' TO' i1' i2' o1' o2' h' hZ' hO' F' N')
  k_with "call type:dict" => (k_here; k_dflt (refine' dict_V ?k1 ?k2 ?k3 ?k4 ?k5 ?k6 ?k7 ?k8 ?k9 ?_; (case k1 => k_asm); (case k2 => k_asm); (case k3 => assumption); (case k4 => assumption); (case k5 => exact rfl); (case k6 => k_mem); (case k7 => k_mem); (case k8 => (rw [List.length_drop]; omega)); (case k9 => assumption); k_whole); intro D3' o3' h' tk' F' N' n3' q3' hD'; (try k_sweep); k_dflt (have e3' : @Ne Nat D3' D2' := fun e => n3' _ (List.mem_cons_of_mem _ List.mem_cons_self) e.symm); k_dflt (have e4' : @Ne Nat l' D2' := Nat.ne_of_gt (l1 _ List.mem_cons_self)))
  intro p loose mean mg mb dp un cn cs a ccd cl outer A₀ base h₀ L m s Q E B F X N T hk hsl hdp hun hret
  refine wpAny_call ?_
  k_dflt ktr_enter
  rename_i g₁ L₁ h₁ FG₁ F₁ N₁ B₁ X₁ T₁
  have hsg : g₁.IsList l vs.toArray := hsl.at fun o e => FG₁.keep _ o e
  k_steps
  rename IntsAre _ (List.take 12 ns) => hI9
  rename News g₁ L₁ _ _ => N9
  rename Fr g₁ L₁ _ _ => F9
  rename _ ∧ _ ∧ AllLt _ news => hL9
  have hw12 := Nat.le_trans (Nat.le_of_eq hI9.length) (show (List.take 12 ns).length ≤ 12 by rw [List.length_take]; omega)
  refine things_for (news := news) F9 N9 ?_ ?_ ?_
  · refine ⟨l', [_], 0, [_], _, rfl, rfl, fun p hp => ?_, l0, fun p hp => ?_, List.mem_cons_self, .one (.str _ _), dash_start hy1' hy2'⟩
    · rcases List.mem_cons.mp hp with rfl | hp
      · exact Nat.ne_of_gt hL9.1
      · exact Nat.ne_of_lt (l1 _ hp)
    · simp [hp]
  · intro i v m₁ nx I oI h tk hv j F N hnI hoI R hR
    refine thJ_elim j F fun T us c ds rest F4 en hne h1 hs hm hall hP => ?_
    subst en
    have hi12 : i < 12 := Nat.lt_of_lt_of_le (List.getElem?_eq_some_iff.mp hv).1 hw12
    obtain ⟨t, rfl⟩ := IntsAre.int_at hI9 i v hv
    generalize (List.take 12 ns).getD i 0 = x at hv
    have hcl := hP.bound (Nat.le_of_lt hi12)
    have hlen : us.length ≤ 358 := by rw [hall.length]; exact Nat.le_trans (costL_len ds) hcl
    have hz9 : us.length ≤ 5000 := by omega
    have hz8 : us.length ≤ sizeLine := by rw [sizeLine_eq]; omega
    obtain ⟨v0, d0, hv0, hd0, hh0⟩ := hall.last hP.2.2.2
    have hne0 : us ≠ [] := by rintro rfl; cases hv0
    have hpos : 1 ≤ us.length := List.length_pos_iff.mpr hne0
    have hfm : ∀ n : Int, 0 < n → 0 ≤ (x.fdiv 10).fmod n ∧ (x.fdiv 10).fmod n < n := fun n hn => ⟨Int.fmod_nonneg_of_pos _ hn, Int.fmod_lt_of_pos _ hn⟩
    have f2 := hfm 2 (by decide)
    have f4 := hfm 4 (by decide)
    have f10 := hfm 10 (by decide)
    have f9 := hfm 10000 (by decide)
    have hIT : @Ne Nat I T := fun e => hnI _ List.mem_cons_self e.symm
    clear F j F9 N9
    k_steps
    case _ => exact hR _ _ <| th_end F' N' (fun p hp => hp) (Ne.symm hIT) (fun p hp => hnI p (List.mem_cons_of_mem _ hp)) rfl hne h1 hs hm (hall.append (.one (.str _ _))) (hP.flat empty_good.1 empty_good.2.1 empty_good.2.2)
    case _ =>
      have hg := thing_int (i := (x.fdiv 10).fmod 10000 - 500) (by omega) (by omega)
      exact hR _ _ <| th_end F' N' (fun p hp => hp) (Ne.symm hIT) (fun p hp => hnI p (List.mem_cons_of_mem _ hp)) rfl hne h1 hs hm (hall.append (.one (.int _ _))) (hP.flat hg.1 hg.2.1 hg.2.2)
    case _ =>
      exact hR _ _ <| th_wrap (X := [_]) F' N' perm3 (off2 n2') (offC (fun e => n1' _ List.mem_cons_self e.symm) (fun _ h => nomatch h)) hnI (fun p hp => n2' p (List.mem_cons_of_mem _ (List.mem_cons_of_mem _ hp))) rfl q2' hs hm hall (.list List.mem_cons_self q1' ((hall.drop _).sub fun p hp => by simp [hp])) (hP.list _)
    case _ =>
      exact hR _ _ <| th_wrap (X := [_, _]) F' N' perm4 (offS e3' (off2 n2')) (offC (fun e => n3' _ (List.mem_cons_of_mem _ (List.mem_cons_of_mem _ List.mem_cons_self)) e.symm) (offC (fun e => n1' _ List.mem_cons_self e.symm) (fun _ h => nomatch h))) hnI (fun p hp => n2' p (List.mem_cons_of_mem _ (List.mem_cons_of_mem _ hp))) rfl q2' hs hm hall (.tuple List.mem_cons_self ((hall.drop _).sub fun p hp => by simp [hp])) (hP.tuple _)
    case _ =>
      exact hR _ _ <| th_wrap (X := [_, _, _]) F' N' perm5 (offS e3' (offS e4' (off2 n2'))) (offC (fun e => n3' _ (List.mem_cons_of_mem _ (List.mem_cons_of_mem _ (List.mem_cons_of_mem _ List.mem_cons_self))) e.symm) (offC (fun e => Nat.lt_irrefl _ (e ▸ l1 _ (List.mem_cons_of_mem _ (List.mem_cons_of_mem _ List.mem_cons_self)))) (offC (fun e => n1' _ List.mem_cons_self e.symm) (fun _ h => nomatch h)))) hnI (fun p hp => n2' p (List.mem_cons_of_mem _ (List.mem_cons_of_mem _ hp))) rfl q2' hs hm hall
        (.dict List.mem_cons_self q3' hD' (hasKv_zip ((hall.drop _).sub fun p hp => by simp [hp]))) (hP.dict _)
    case _ =>
      obtain ⟨d, g1, g2, g3, g4⟩ := flat_good (w := w) (led := rest) (by assumption)
      exact hR _ _ <| th_end F' N' (fun p hp => List.mem_cons_of_mem _ hp) (Ne.symm hIT) (fun p hp => hnI p (List.mem_cons_of_mem _ hp)) rfl hne h1 hs hm (hall.append (.one g1)) (hP.flat g2 g3 g4)
    case _ =>
      obtain ⟨x0, t0, rfl, rfl⟩ := isStr_of hh0 (by assumption)
      have hx0 := str_short hP (Nat.le_of_lt hi12) hd0
      k_steps
      case _ => exact hR _ _ <| th_end F' N' (fun p hp => hp) (Ne.symm hIT) (fun p hp => hnI p (List.mem_cons_of_mem _ hp)) rfl hne h1 hs hm (hall.init.append (.one (.str _ _))) (sign_end hP hd0 hc' (.inl (by assumption)))
      case _ => exact hR _ _ <| th_end F' N' (fun p hp => hp) (Ne.symm hIT) (fun p hp => hnI p (List.mem_cons_of_mem _ hp)) rfl hne h1 hs hm (hall.init.append (.one (.str _ _))) (sign_end hP hd0 hc' (.inr (by assumption)))
      case _ =>
        rename Fr g₁ L₁ _ _ => F8
        rename News g₁ L₁ _ _ => N8
        exact hR _ _ <| th_end F8 N8 (fun p hp => hp) (Ne.symm hIT) (fun p hp => hnI p (List.mem_cons_of_mem _ hp)) rfl hne h1 hs hm hall hP.stay
    case _ => exact hR _ _ <| th_end F' N' (fun p hp => hp) (Ne.symm hIT) (fun p hp => hnI p (List.mem_cons_of_mem _ hp)) rfl hne h1 hs hm (hall.over (.str _ _)) (fresh_end hP hc')
    case _ => exact hR _ _ <| th_end F' N' (fun p hp => hp) (Ne.symm hIT) (fun p hp => hnI p (List.mem_cons_of_mem _ hp)) rfl hne h1 hs hm (hall.over (.str _ _)) (fresh_end hP hc')
    case _ =>
      rename Fr g₁ L₁ _ _ => F8
      rename News g₁ L₁ _ _ => N8
      exact hR _ _ <| th_end F8 N8 (fun p hp => hp) (Ne.symm hIT) (fun p hp => hnI p (List.mem_cons_of_mem _ hp)) rfl hne h1 hs hm (hall.append (.one (.str _ _))) (hP.flat empty_good.1 empty_good.2.1 empty_good.2.2)
  · intro m₁ nx h tk j F N
    refine thJ_elim j F fun T us c ds rest F4 en hne h1 hs hm hall hP => ?_
    subst en
    clear F j F9 N9
    dsimp only
    k_steps
    exact hret _ _ _ _ (by k_asm) (by k_asm) ⟨fun p hp => List.mem_cons_of_mem _ (hs p hp), _, _, _, _, rfl, List.mem_cons_self, h1, hall.sub (fun p hp => List.mem_cons_of_mem _ hp), hP.mono hw12⟩


/-! law: rules -/
section
variable {w : World} {A : Around} {E : Value → Shared → Prop} {s : Shared} {h₀ : Heap} {L S W : Addr} {m : Str → Option Value} {news : Led} {us vs : Array Value} {c c' : Nat} {ts : List (List Nat)} {Q : Value → Shared → Prop}
theorem texts_at {a b : List Value} {ts : List (List Nat)} (h1 : TextsAre a ts) (h2 : TextsAre b ts) : ∀ (j : Nat) (x y : Value), a[j]? = some x → b[j]? = some y → ∃ k t u, x = .str k t ∧ y = .str k u := by
  obtain ⟨tk, e1, rfl⟩ := h1
  obtain ⟨uk, e2, rfl⟩ := h2
  intro j x y hx hy
  rw [List.getElem?_zipWith] at hx hy
  cases ht : ts[j]? with
  | none => rw [ht] at hx; simp at hx
  | some k =>
    rw [ht] at hx hy
    cases h1 : tk[j]? with
    | none => rw [h1] at hx; simp at hx
    | some t => cases h2 : uk[j]? with
      | none => rw [h2] at hy; simp at hy
      | some u =>
        rw [h1] at hx
        rw [h2] at hy
        simp at hx hy
        exact ⟨_, t, u, hx.symm, hy.symm⟩
theorem eqAt_str {x : Str} {t u : Tok} : SeqAt.EqAt A s (.str x t) (.str x u) true := fun _ _ _ _ h => wpAny_eqBool_str (by simpa using h)
theorem texts_items (h1 : TextsAre us.toList ts) (h2 : TextsAre vs.toList ts) : us.size = vs.size ∧ ∀ j (g1 : j < us.size) (g2 : j < vs.size), SeqAt.EqAt A s us[j] vs[j] true := by
  have e1 := h1.length
  have e2 := h2.length
  rw [Array.length_toList] at e1 e2
  refine ⟨by omega, fun j g1 g2 => ?_⟩
  obtain ⟨k, t, u, q1, q2⟩ := texts_at h1 h2 j us[j] vs[j] (by simp) (by simp)
  rw [q1, q2]
  exact eqAt_str
theorem texts_ne (N : News h₀ L s.heap news) (hS : (S, lisO us c) ∈ news) (hW : (W, lisO vs c') ∈ news) (h1 : TextsAre us.toList ts) (h2 : TextsAre vs.toList ts) (hu : A.units < cLine) (h : Q (.bool false) s) : wpAny (model prg w) A (compareOp .NotEq (.ref S) (.ref W)) Q E s := by
  obtain ⟨a, b⟩ := texts_items (A := A.in1) (s := s) h1 h2
  refine SeqAt.RcNeAt.lists (e := fun _ => true) ⟨_, (N _ hS).1, rfl, c, rfl⟩ ⟨_, (N _ hW).1, rfl, c', rfl⟩ a hu b prg w E Q ?_
  rw [show (List.range us.size).all (fun _ => true) = true by simp]
  exact h
theorem texts_eq (N : News h₀ L s.heap news) (hS : (S, lisO us c) ∈ news) (hW : (W, lisO vs c') ∈ news) (h1 : TextsAre us.toList ts) (h2 : TextsAre vs.toList ts) (hu : A.units < cLine) (h : Q (.bool true) s) : wpAny (model prg w) A (compareOp .Eq (.ref S) (.ref W)) Q E s := by
  obtain ⟨a, b⟩ := texts_items (A := A.in1) (s := s) h1 h2
  refine SeqAt.RcAt.lists (e := fun _ => true) ⟨_, (N _ hS).1, rfl, c, rfl⟩ ⟨_, (N _ hW).1, rfl, c', rfl⟩ a hu b prg w E Q ?_
  rw [show (List.range us.size).all (fun _ => true) = true by simp]
  exact h
/-- due + ['[truncated]...'] -/
theorem texts_more {l : Addr} {t : Tok} (F : Fr h₀ L s.heap m) (N : News h₀ L s.heap news) (hW : (W, lisO us c) ∈ news) (hl : (l, lisO #[.str (Str.ofString "[truncated]...") t] c') ∈ news) (h1 : TextsAre us.toList ts) (hz : ts.length ≤ 1000)
    (h : ∀ D vs h', Fr h₀ L h' m → News h₀ L h' ((D, lisO vs 0) :: news) → TextsAre vs.toList (ts ++ [TRt]) → Q (.ref D) { s with heap := h' }) : wpAny (model prg w) A (binaryOp .Add (.ref W) (.ref l)) Q E s := by
  have e : Str.ofString "[truncated]..." = tx TRt := by decide +kernel
  rw [e] at hl
  have hz' := h1.length
  rw [← us.toArray_toList] at hW
  refine add_two F N hW (ws := [_]) hl (by simp; simp at hz'; omega) fun D h' F' N' _ => h D _ h' F' N' ?_
  simpa using h1.snoc
end
noncomputable def Sm (p : Pc) : Prop := p.told.length ≤ p.raw.length
theorem sm_bare (x : List Nat) : Sm (bareP x) := Nat.le_refl _
theorem sm_gap : Sm gapP := Nat.zero_le _
theorem sm_text (x : List Nat) : Sm (textPc x) := by
  have h : ∀ x : List Nat, (x.flatMap tolC).length ≤ (x.flatMap esc).length := fun x => by
    induction x with
    | nil => simp
    | cons c r ih =>
      have : (tolC c).length ≤ (esc c).length := by
        unfold tolC
        split
        · rename_i e; subst e; decide
        · exact Nat.le_refl _
      rw [List.flatMap_cons, List.flatMap_cons, List.length_append, List.length_append]; omega
  unfold Sm textPc toldOf
  have := h x
  simp only [List.length_cons, List.length_append, List.length_nil]
  split <;> omega
theorem sm_foldl : ∀ (ps : List (List Pc)) (acc : List Pc), (∀ p ∈ acc, Sm p) → (∀ l ∈ ps, ∀ p ∈ l, Sm p) → ∀ p ∈ ps.foldl stepP acc, Sm p := by
  intro ps
  induction ps with
  | nil => intro acc h _; exact h
  | cons l r ih =>
    intro acc h hl
    rw [List.foldl_cons]
    refine ih _ ?_ fun q hq => hl q (List.mem_cons_of_mem _ hq)
    intro p hp
    unfold stepP at hp
    rcases List.mem_append.mp hp with hp | hp
    · split at hp
      · cases hp
      · rcases List.mem_append.mp hp with hp | hp
        · exact h p hp
        · simp only [List.mem_cons, List.not_mem_nil, or_false] at hp
          rcases hp with rfl | rfl
          · exact sm_bare _
          · exact sm_gap
    · exact hl l List.mem_cons_self p hp
mutual
theorem told_le : ∀ d : PyData, ∀ p ∈ pcs d, Sm p
  | .none, p, hp => by simp only [pcs, List.mem_singleton] at hp; subst hp; exact sm_bare _
  | .bool b, p, hp => by simp only [pcs, List.mem_singleton] at hp; subst hp; exact sm_bare _
  | .int i, p, hp => by simp only [pcs, List.mem_singleton] at hp; subst hp; exact sm_bare _
  | .str x, p, hp => by simp only [pcs, List.mem_singleton] at hp; subst hp; exact sm_text _
  | .list xs, p, hp => by
    simp only [pcs, List.mem_cons, List.mem_append, List.not_mem_nil, or_false] at hp
    rcases hp with rfl | hp | rfl
    · exact sm_bare _
    · exact sm_foldl _ _ (by simp) (told_leL xs) p hp
    · exact sm_bare _
  | .tuple xs, p, hp => by
    simp only [pcs, List.mem_cons, List.mem_append, List.not_mem_nil, or_false] at hp
    rcases hp with rfl | (hp | hp) | rfl
    · exact sm_bare _
    · exact sm_foldl _ _ (by simp) (told_leL xs) p hp
    · split at hp
      · rw [List.mem_singleton.mp hp]; exact sm_bare _
      · cases hp
    · exact sm_bare _
  | .dict xs, p, hp => by
    simp only [pcs, List.mem_cons, List.mem_append, List.not_mem_nil, or_false] at hp
    rcases hp with rfl | hp | rfl
    · exact sm_bare _
    · exact sm_foldl _ _ (by simp) (told_leK xs) p hp
    · exact sm_bare _
theorem told_leL : ∀ xs : List PyData, ∀ l ∈ pcsL xs, ∀ p ∈ l, Sm p
  | [], l, hl => by simp [pcsL] at hl
  | x :: r, l, hl => by
    simp only [pcsL, List.mem_cons] at hl
    rcases hl with rfl | hl
    · exact told_le x
    · exact told_leL r l hl
theorem told_leK : ∀ xs : List (PyData × PyData), ∀ l ∈ pcsK xs, ∀ p ∈ l, Sm p
  | [], l, hl => by simp [pcsK] at hl
  | (k, v) :: r, l, hl => by
    simp only [pcsK, List.mem_cons] at hl
    rcases hl with rfl | hl
    · intro p hp
      simp only [List.mem_append, List.mem_cons, List.not_mem_nil, or_false] at hp
      rcases hp with (hp | rfl | rfl) | hp
      · exact told_le k p hp
      · exact sm_bare _
      · exact sm_gap
      · exact told_le v p hp
    · exact told_leK r l hl
end
theorem raw_le : ∀ {ps : List Pc} {p : Pc}, p ∈ ps → p.raw.length ≤ (rawOf ps).length
  | q :: r, p, h => by
    have e : (rawOf (q :: r)).length = q.raw.length + (rawOf r).length := by simp [rawOf]
    rcases List.mem_cons.mp h with rfl | h
    · omega
    · have := raw_le h; omega
theorem good_raw {p : Pc} (h : p.Good) : p.raw ≠ [] := by
  unfold Pc.Good at h
  cases hk : p.kind with
  | bare => rw [hk] at h; exact h.2.1
  | gap => rw [hk] at h; have h1 : p.raw = [32] := h.1; rw [h1]; simp
  | text => rw [hk] at h; obtain ⟨k, body, _, hr, _⟩ := (show TextPc p.raw p.told from h); rw [hr]; simp
theorem pcs_sizes {d : PyData} (hg : GoodD d) (h : (rawOf (pcs d)).length ≤ 362) : ∀ p ∈ pcs d, p.told.length ≤ 2000 ∧ p.raw.length ≤ 2000 ∧ p.raw ≠ [] := fun p hp => by
  have h1 : p.told.length ≤ p.raw.length := told_le d p hp
  have h2 := raw_le hp
  exact ⟨by omega, by omega, good_raw (pcs_good d hg p hp)⟩
theorem wd_len : ∀ (ps : List Pc) (ws : List (List Nat)) (cur : Option (List Nat)) (room : Nat) (us : List (List Nat)), wd ws cur ps room = some us → us.length ≤ ws.length + 1 + ps.length := by
  intro ps
  induction ps with
  | nil =>
    intro ws cur room us h
    simp only [wd, Option.some.injEq] at h
    subst h
    cases cur <;> simp
  | cons p r ih =>
    intro ws cur room us h
    have hc : cur.toList.length ≤ 1 := by cases cur <;> simp
    simp only [wd] at h
    split at h
    · simp only [Option.some.injEq] at h
      subst h
      simp only [List.length_append, List.length_cons]; omega
    · split at h
      · have := ih _ _ _ _ h
        simp only [List.length_append, List.length_cons] at this ⊢; omega
      · split at h
        · cases h
        · have := ih _ _ _ _ h
          simp only [List.length_cons]; omega
      · have := ih _ _ _ _ h
        simp only [List.length_cons]; omega
/-- the sizes of the pieces -/
noncomputable def SizesAre (vs : List Value) (ps : List Pc) : Prop := IntsAre vs (ps.map fun p => (p.raw.length : Int))
theorem sizes_snoc : ∀ {vs : List Value} {ns : List Int} {k : Int} {t : Tok}, IntsAre vs ns → IntsAre (vs ++ [.int k t]) (ns ++ [k])
  | _, _, _, _, .nil => .cons _ _ .nil
  | _, _, _, _, .cons n t h => .cons n t (sizes_snoc h)
theorem sizes_sum : ∀ ps : List Pc, (ps.map fun p => (p.raw.length : Int)).sum = ((rawOf ps).length : Int)
  | [] => rfl
  | p :: r => by
    rw [List.map_cons, List.sum_cons, sizes_sum r]
    simp only [rawOf, List.flatMap_cons, List.length_append]
    omega
section
variable {w : World} {A : Around} {s : Shared} {h₀ : Heap} {L : Addr} {m : Str → Option Value} {env : Env}
theorem comp_pieces {elt : PySem.Expr} {x : Str} {scope : Scope} {cl : List (Str × Addr)} {ax : Addr} {its : List Value} {k : Nat} {ps : List Pc} {news : Led} {Fin : List Value → Led → Prop} (hm : (ax, lisO its.toArray k) ∈ news) (hp : PcsAre news its ps)
    (el : ∀ T n t1 t2 t3 p I oI C oC D ys m₂ h tk (Q' E' : Value → Shared → Prop), (T, tupO #[.int ((p : Pc).raw.length : Int) t1, .str (tx p.told) t2, .str (kindS p.kind) t3] n) ∈ news → LCg.NsObj oC m₂ → m₂ x = some (.ref T) → Fr h₀ L h m → News h₀ L h ((I, oI) :: (C, oC) :: (D, LCg.lst ys) :: news) → LCg.Off3 I C D news →
      (∀ h' tk' t', Fr h₀ L h' m → News h₀ L h' ((I, oI) :: (C, oC) :: (D, LCg.lst ys) :: news) → Q' (.int (p.raw.length : Int) t') { s with heap := h', toks := tk' }) →
      wpAny (model prg w) A (eval elt (compEnvC scope cl C env)) Q' E' { s with heap := h, toks := tk })
    (fin : ∀ ys, SizesAre ys ps → Fin ys news) : ∀ j i ys, i + j = its.length → SizesAre ys (ps.take i) → LCg.CompRest prg w A h₀ L m env elt x scope cl s (LCg.SrcAt h₀ ax its.toArray) (fun i v => its.toArray[i]? = some v) Fin j i ys news := by
  intro j
  induction j with
  | zero =>
    intro i ys hi hy
    refine LCg.CompRest.zero (fin ys ?_)
    rw [List.take_of_length_le (by rw [← hp.length]; omega)] at hy
    exact hy
  | succ j ih =>
    intro i ys hi hy
    refine LCg.CompRest.succ ?_
    rintro v I oI C oC D m₂ h tk E' hv hns hmx F N off ne
    obtain ⟨p, hpi, T, n, t1, t2, t3, rfl, hT⟩ := hp.get (i := i) (v := v) (by simpa using hv)
    refine el T n t1 t2 t3 p I oI C oC D ys m₂ h tk _ _ hT hns hmx F N off ?_
    intro h' tk' t' F' N'
    refine LCg.CompEnd.intro F' N' news (fun p hp => hp) off (.inr ⟨_, hm, rfl, _, rfl⟩) (ih (i + 1) _ (by omega) ?_)
    unfold SizesAre at hy ⊢
    rw [List.take_add_one, hpi, List.map_append]
    exact sizes_snoc hy
end
section
variable {w : World} {A : Around} {E : Value → Shared → Prop} {s : Shared} {h₀ : Heap} {L T : Addr} {m : Str → Option Value} {news : Led}
theorem sum_V {D : Addr} {ys : List Value} {c : Nat} {ps : List Pc} {Q : Value → Shared → Prop} (hh : A.handled = none) (F : Fr h₀ L s.heap m) (N : News h₀ L s.heap news) (hm : (D, lisO ys.toArray c) ∈ news) (hy : SizesAre ys ps)
    (h : ∀ h' tk t', Fr h₀ L h' m → News h₀ L h' news → Q (.int ((rawOf ps).length : Int) t') { s with heap := h', toks := tk }) : wpAny (model prg w) A (call (.builtin "sum") [.ref D]) Q E s :=
  sumK hh F N ⟨_, (N _ hm).1, rfl, c, rfl⟩ hy fun h' tk t' F' N' => by rw [sizes_sum]; exact h h' tk t' F' N'
theorem first_V {value slice : PySem.Expr} {us : List Value} {c : Nat} {t : Tok} {v : Value} {Q : Value → Shared → Prop} (N : News h₀ L s.heap news) (hm : (T, lisO (v :: us).toArray c) ∈ news) (h : Q v s)
    (hs : subscripted slice false (.ref T) (.int 0 t) = operate [.ref T, .int 0 t] (getItem (.ref T) (.int 0 t)) := by with_unfolding_all rfl) : wpAny (model prg w) A (subscriptTail value slice (.ref T) (.int 0 t)) Q E s := by
  have hl : s.heap.IsList T (v :: us).toArray := ⟨_, (N _ hm).1, rfl, c, rfl⟩
  exact tail_any hl.typeIs slot_list_getitem.lookup (wpAny_getItem_list hl (by decide) (by decide) (by simp) h) hs
theorem tup0_V {value slice : PySem.Expr} {a b c' : Value} {n : Nat} {t : Tok} {Q : Value → Shared → Prop} (N : News h₀ L s.heap news) (hm : (T, tupO #[a, b, c'] n) ∈ news) (h : Q a s)
    (hs : subscripted slice false (.ref T) (.int 0 t) = operate [.ref T, .int 0 t] (getItem (.ref T) (.int 0 t)) := by with_unfolding_all rfl) : wpAny (model prg w) A (subscriptTail value slice (.ref T) (.int 0 t)) Q E s := by
  exact item_tupleT (l := [a, b, c']) (j := 0) (News.isTup N hm) (by decide) (by decide) rfl rfl h hs
theorem top_is {A : Around} {M : Model} {E : Value → Shared → Prop} {t : Sem Value} {Q : Value → Shared → Prop} {v0 : Value} {d0 : PyData} (_F : Fr h₀ L s.heap m) (_N : News h₀ L s.heap news) (_hv : Has w news v0 d0)
    (walk : ∀ Q' : Value → Shared → Prop, (∀ v d h' tk, Fr h₀ L h' m → News h₀ L h' news → Has w news v d → GoodD d → d.depth ≤ 13 → rl d ≤ 362 → Q' v { s with heap := h', toks := tk }) → wpAny M A t Q' E s)
    (h : ∀ v d h' tk, Fr h₀ L h' m → News h₀ L h' news → Has w news v d → GoodD d → d.depth ≤ 13 → rl d ≤ 362 → Q v { s with heap := h', toks := tk }) : wpAny M A t Q E s := walk Q h
theorem top_one {d : PyData} {q : List PyData} (h : TInv 12 (d :: q)) : GoodD d ∧ d.depth ≤ 13 ∧ rl d ≤ 362 := by
  obtain ⟨h1, h2, h3, _⟩ := h
  have h1 : GoodD d ∧ GoodL q := by simpa only [GoodL] using h1
  simp only [costL] at h2
  simp only [PyData.depthAll] at h3
  exact ⟨h1.1, by omega, by omega⟩
theorem top_all {ds : List PyData} (h : TInv 12 ds) : GoodD (.list ds) ∧ (PyData.list ds).depth ≤ 13 ∧ rl (.list ds) ≤ 362 := by
  obtain ⟨h1, h2, h3, _⟩ := h
  have := rl_list ds
  exact ⟨by simpa only [GoodD] using h1, by simp only [PyData.depth]; omega, by omega⟩
theorem HasAll.head {led : Led} {us : List Value} {ds : List PyData} (h : HasAll w led us ds) (hne : ds ≠ []) : ∃ v r d q, us = v :: r ∧ ds = d :: q ∧ Has w led v d := by
  cases h with
  | nil => exact absurd rfl hne
  | cons h1 h2 => exact ⟨_, _, _, _, rfl, rfl, h1⟩
theorem shown_len {d : PyData} (h : GoodD d) : d.shown.length = (rawOf (pcs d)).length := by
  rw [raw_shown d h]; simp [sg, Str.length]
theorem top_cut {A : Around} {M : Model} {α : Type} {t : Sem α} {Q : α → Shared → Prop} (P : (α → Shared → Prop) → Prop) (h1 : ∀ Q', P Q' → wpAny M A t Q' E s) (h2 : P Q) : wpAny M A t Q E s := h1 Q h2
end
section
variable {w : World} {p : Program} {loose : List Str} {mean : ExcName → Option Value} {mg mb : Str → Option Value} {dp un : Nat} {cn : Str} {cs : Scope} {a : Addr} {ccd : Value} {cl : List (Str × Addr)} {outer : List Env} {A₀ : Around} {base h₀ : Heap} {L : Addr} {m : Str → Option Value} {s : Shared} {Q E : Value → Shared → Prop}
theorem spI_call {f l : Addr} {vs : List Value} {news : Led} {dN uN : Nat} {Post : Value → Led → Prop} (S : SpI w f l vs news dN uN Post) (B : Below A₀ base outer h₀) (F : Fr h₀ L s.heap m) (X : (hd.heap_1 w.params).In h₀) (N : News h₀ L s.heap news) (T : Top p loose mean mg mb h₀) (hk : cs.kind = .function) (hl : h₀.IsList l vs.toArray) (hd : dp + dN < recursionLimit) (hu : un + uN < cLine)
    (h : ∀ r news' h' tk', Fr h₀ L h' m → News h₀ L h' news' → Post r news' → Q r { s with heap := h', toks := tk' }) : wpAny (model prg w) (ktrTop dp un (some []) cn cs L a ccd cl outer) (call (.ref f) [.ref l]) Q E s :=
  S p loose mean mg mb dp un cn cs a ccd cl outer A₀ base h₀ L m s Q E B F X N T hk hl hd hu h
theorem spB_call {f : Addr} {args : List Value} {news : Led} {dN uN : Nat} {rz : Prop} {Post : Value → Led → Prop} (S : SpB w f args news dN uN rz Post) (B : Below A₀ h₀ outer h₀) (F : Fr h₀ L s.heap m) (X : (hd.heap_1 w.params).In h₀) (N : News h₀ L s.heap news) (T : Top p loose mean mg mb h₀) (hk : cs.kind = .function) (hd : dp + dN < recursionLimit) (hu : un + uN < cLine)
    (h : (∀ r news' h' tk', Fr h₀ L h' m → News h₀ L h' news' → Post r news' → Q r { s with heap := h', toks := tk' }) ∧
      (rz → ∀ e t tt g h' tk', Fr h₀ L g m → g.UpToSlots h' → RaisedK h₀ (envX cn cs L a ccd cl :: outer) e (.type "ValueError") t [.str (Str.ofString "No closing quotation") tt] [] h' → E (.ref e) { s with heap := h', toks := tk' })) :
    wpAny (model prg w) (ktrTop dp un (some []) cn cs L a ccd cl outer) (call (.ref f) args) Q E s :=
  S p loose mean mg mb dp un cn cs a ccd cl outer A₀ h₀ L m s Q E B F X N T hk hd hu h.1 h.2
end
theorem min80 (n : Nat) : (if (80 : Int) < (n : Int) then (80 : Int) else (n : Int)) = ((min n 80 : Nat) : Int) := by
  split <;> omega
theorem words_at (w : World) (P : Addr) (vs : List Value) (nP : Nat) (ps : List Pc) (room : Nat) (tr : Tok) (news : Led) {i : Int} (hi : i = ((room : Nat) : Int)) (hP : (P, lisO vs.toArray nP) ∈ news) (hvs : PcsAre news vs ps) (hr : room ≤ 1000) (hn : ps.length ≤ 1000) (hl : ∀ p ∈ ps, p.told.length ≤ 2000 ∧ p.raw.length ≤ 2000 ∧ p.raw ≠ []) :
    Sp w 768 [.ref P, .int i tr] news 4 60 False (fun r news' => (∀ p ∈ news, p ∈ news') ∧ ((wd [] none ps room = none ∧ r = .none) ∨ ∃ ws W us c, wd [] none ps room = some ws ∧ r = .ref W ∧ (W, lisO us c) ∈ news' ∧ TextsAre us.toList ws)) := by
  subst hi
  exact words_ok w P vs nP ps room tr news hP hvs hr hn hl


/-! law: the calls, each with what it gives back taken apart -/
section
variable {w : World} {p : Program} {loose : List Str} {mean : ExcName → Option Value} {mg mb : Str → Option Value} {dp un : Nat} {cn : Str} {cs : Scope} {a : Addr} {ccd : Value} {cl : List (Str × Addr)} {outer : List Env} {A₀ : Around} {base h₀ : Heap} {L : Addr} {m : Str → Option Value} {s : Shared} {Q E : Value → Shared → Prop} {news : Led}
theorem things_call {l : Addr} {vs : List Value} {ns : List Int} (hi : IntsAre vs ns) (hn : ns.length ≤ 63) (B : Below A₀ base outer h₀) (F : Fr h₀ L s.heap m) (X : (hd.heap_1 w.params).In h₀) (N : News h₀ L s.heap news) (T : Top p loose mean mg mb h₀) (hk : cs.kind = .function) (hl : h₀.IsList l vs.toArray) (hd : dp + 10 < recursionLimit) (hu : un + 150 < cLine)
    (h : ∀ T us c ds led h' tk', Fr h₀ L h' m → News h₀ L h' led → (T, lisO (us : List Value).toArray c) ∈ led → @LT.lt Nat _ 1 T → HasAll w led us ds → TInv 12 ds → us.length ≤ 5000 → Q (.ref T) { s with heap := h', toks := tk' }) :
    wpAny (model prg w) (ktrTop dp un (some []) cn cs L a ccd cl outer) (call (.ref 749) [.ref l]) Q E s :=
  spI_call (things_ok _ _ _ _ hi hn _) B F X N T hk hl hd hu fun r nw h' tk' F' N' P9 => (by
    obtain ⟨_, T1, us, c, ds, e, hm, hlo, hall, hP⟩ := P9
    have hcl1 := hP.bound (Nat.le_refl _)
    subst e
    exact h T1 us c ds nw h' tk' F' N' hm hlo hall hP (by rw [hall.length]; exact Nat.le_trans (costL_len ds) (by omega)))
theorem pcs_call {v : Value} {d : PyData} (hv : Has w news v d) (hgo : GoodD d) (hdd : d.depth ≤ 13) (hB : (rawOf (pcs d)).length ≤ 362) (B : Below A₀ base outer h₀) (F : Fr h₀ L s.heap m) (X : (hd.heap_1 w.params).In h₀) (N : News h₀ L s.heap news) (T : Top p loose mean mg mb h₀) (hk : cs.kind = .function) (hd : dp + 70 < recursionLimit) (hu : un + 900 < cLine)
    (h : ∀ P ps c led h' tk', Fr h₀ L h' m → News h₀ L h' led → Sub news led → (P, lisO (ps : List Value).toArray c) ∈ led → PcsAre led ps (pcs d) → ps.length ≤ 362 → Q (.ref P) { s with heap := h', toks := tk' }) :
    wpAny (model prg w) (ktrTop dp un (some []) cn cs L a ccd cl outer) (call (.ref 761) [v]) Q E s :=
  sp_call (pieces_all w 13 d hdd hgo (Nat.le_trans hB (by decide)) v news hv) B F X N T hk (by omega) (by omega) ⟨fun r nw h' tk' F' N' P9 => (by
    obtain ⟨hs, P, ps, c, e, hm, hp⟩ := P9
    subst e
    exact h P ps c nw h' tk' F' N' hs hm hp (by rw [hp.length]; exact Nat.le_trans (count_le (pcs_good d hgo)) hB)), fun z => z.elim⟩
theorem repr_call {v : Value} {d : PyData} (hv : Has w news v d) (hgo : GoodD d) (hdp : d.depth ≤ 20) (hsz : d.shown.length ≤ 1000) (B : Below A₀ base outer h₀) (F : Fr h₀ L s.heap m) (X : (hd.heap_1 w.params).In h₀) (N : News h₀ L s.heap news) (T : Top p loose mean mg mb h₀) (hk : cs.kind = .function) (hd : dp + 4 < recursionLimit) (hu : un + 80 < cLine)
    (h : ∀ t h' tk', Fr h₀ L h' m → News h₀ L h' news → Q (.str d.shown t) { s with heap := h', toks := tk' }) :
    wpAny (model prg w) (ktrTop dp un (some []) cn cs L a ccd cl outer) (call (.ref 47) [v]) Q E s :=
  sp_call (repr_ok w v d news hv hgo hdp hsz) B F X N T hk hd hu ⟨fun r nw h' tk' F' N' P9 => (by obtain ⟨⟨t, e⟩, e2⟩ := P9; subst e; subst e2; exact h t h' tk' F' N'), fun z => z.elim⟩
theorem short_call {v : Value} {d : PyData} {y : Str} (hv : Has w news v d) (hgo : GoodD d) (hdp : d.depth ≤ 20) (hsz : d.shown.length ≤ 1000) (hy : (if d.shown.length < 80 then d.shown else tx ((sg d.shown).take 80 ++ TR)) = y) (B : Below A₀ base outer h₀) (F : Fr h₀ L s.heap m) (X : (hd.heap_1 w.params).In h₀) (N : News h₀ L s.heap news) (T : Top p loose mean mg mb h₀) (hk : cs.kind = .function) (hd : dp + 4 < recursionLimit) (hu : un + 80 < cLine)
    (h : ∀ t h' tk', Fr h₀ L h' m → News h₀ L h' news → Q (.str y t) { s with heap := h', toks := tk' }) :
    wpAny (model prg w) (ktrTop dp un (some []) cn cs L a ccd cl outer) (call (.ref 47) [v, .bool true]) Q E s :=
  sp_call (repr_short w v d news hv hgo hdp hsz) B F X N T hk hd hu ⟨fun r nw h' tk' F' N' P9 => (by obtain ⟨⟨t, e⟩, e2⟩ := P9; rw [hy] at e; subst e; subst e2; exact h t h' tk' F' N'), fun z => z.elim⟩
theorem words_some {P : Addr} {vs : List Value} {nP : Nat} {ps : List Pc} {room : Nat} {tr : Tok} {i : Int} {ws : List (List Nat)} (hi : i = ((room : Nat) : Int)) (hP : (P, lisO vs.toArray nP) ∈ news) (hvs : PcsAre news vs ps) (hr : room ≤ 1000) (hn : ps.length ≤ 1000) (hl : ∀ p ∈ ps, p.told.length ≤ 2000 ∧ p.raw.length ≤ 2000 ∧ p.raw ≠ []) (hws : wd [] none ps room = some ws)
    (B : Below A₀ base outer h₀) (F : Fr h₀ L s.heap m) (X : (hd.heap_1 w.params).In h₀) (N : News h₀ L s.heap news) (T : Top p loose mean mg mb h₀) (hk : cs.kind = .function) (hd : dp + 4 < recursionLimit) (hu : un + 60 < cLine)
    (h : ∀ W us c led h' tk', Fr h₀ L h' m → News h₀ L h' led → Sub news led → (W, lisO us c) ∈ led → TextsAre us.toList ws → Q (.ref W) { s with heap := h', toks := tk' }) :
    wpAny (model prg w) (ktrTop dp un (some []) cn cs L a ccd cl outer) (call (.ref 768) [.ref P, .int i tr]) Q E s :=
  sp_call (words_at w P vs nP ps room tr news hi hP hvs hr hn hl) B F X N T hk hd hu ⟨fun r nw h' tk' F' N' P9 => (by
    obtain ⟨hs, ho⟩ := P9
    rcases ho with ⟨e, _⟩ | ⟨ws', W, us, c, e, e2, hm, ht⟩
    · rw [hws] at e; cases e
    · rw [hws] at e; cases e
      subst e2
      exact h W us c nw h' tk' F' N' hs hm ht), fun z => z.elim⟩
theorem words_none {P : Addr} {vs : List Value} {nP : Nat} {ps : List Pc} {room : Nat} {tr : Tok} {i : Int} (hi : i = ((room : Nat) : Int)) (hP : (P, lisO vs.toArray nP) ∈ news) (hvs : PcsAre news vs ps) (hr : room ≤ 1000) (hn : ps.length ≤ 1000) (hl : ∀ p ∈ ps, p.told.length ≤ 2000 ∧ p.raw.length ≤ 2000 ∧ p.raw ≠ []) (hws : wd [] none ps room = none)
    (B : Below A₀ base outer h₀) (F : Fr h₀ L s.heap m) (X : (hd.heap_1 w.params).In h₀) (N : News h₀ L s.heap news) (T : Top p loose mean mg mb h₀) (hk : cs.kind = .function) (hd : dp + 4 < recursionLimit) (hu : un + 60 < cLine)
    (h : ∀ led h' tk', Fr h₀ L h' m → News h₀ L h' led → Sub news led → Q .none { s with heap := h', toks := tk' }) :
    wpAny (model prg w) (ktrTop dp un (some []) cn cs L a ccd cl outer) (call (.ref 768) [.ref P, .int i tr]) Q E s :=
  sp_call (words_at w P vs nP ps room tr news hi hP hvs hr hn hl) B F X N T hk hd hu ⟨fun r nw h' tk' F' N' P9 => (by
    obtain ⟨hs, ho⟩ := P9
    rcases ho with ⟨_, e2⟩ | ⟨ws', W, us, c, e, _, _, _⟩
    · subst e2
      exact h nw h' tk' F' N' hs
    · rw [hws] at e; cases e), fun z => z.elim⟩
theorem split_call {x : Str} {t : Tok} {ws : List (List Nat)} (hx : x.length ≤ 1000) (ho : lexF 400 x.cps.toList = .ok ws) (B : Below A₀ h₀ outer h₀) (F : Fr h₀ L s.heap m) (X : (hd.heap_1 w.params).In h₀) (N : News h₀ L s.heap news) (T : Top p loose mean mg mb h₀) (hk : cs.kind = .function) (hd : dp + 40 < recursionLimit) (hu : un + 400 < cLine)
    (h : ∀ S acc c led h' tk', Fr h₀ L h' m → News h₀ L h' led → Sub news led → (S, lsO acc c) ∈ led → TextsAre acc.toList ws → Q (.ref S) { s with heap := h', toks := tk' }) :
    wpAny (model prg w) (ktrTop dp un (some []) cn cs L a ccd cl outer) (call (.ref 742) [.str x t, .bool true]) Q E s :=
  spB_call (split_ok w x t hx news 400 (by decide) (.ok ws) (fun e => nomatch e) ho) B F X N T hk hd hu ⟨fun r nw h' tk' F' N' P9 => (by
    obtain ⟨S, toks, acc, c, e, ht, er, _, en⟩ := P9
    cases e; subst er; subst en
    exact h S acc c _ h' tk' F' N' (fun p hp => List.mem_cons_of_mem _ hp) List.mem_cons_self ht), fun z => nomatch z⟩
theorem split2_call {x : Str} {t : Tok} {ws : List (List Nat)} (hx : x.length ≤ 1000) (ho : lexF 400 x.cps.toList = .ok ws) (B : Below A₀ h₀ outer h₀) (F : Fr h₀ L s.heap m) (X : (hd.heap_1 w.params).In h₀) (N : News h₀ L s.heap news) (T : Top p loose mean mg mb h₀) (hk : cs.kind = .function) (hd : dp + 40 < recursionLimit) (hu : un + 400 < cLine)
    (h : ∀ S acc c led h' tk', Fr h₀ L h' m → News h₀ L h' led → Sub news led → (S, lsO acc c) ∈ led → TextsAre acc.toList ws → Q (.ref S) { s with heap := h', toks := tk' }) :
    wpAny (model prg w) (ktrTop dp un (some []) cn cs L a ccd cl outer) (call (.ref 742) [.str x t]) Q E s :=
  spB_call (split_ok2 w x t hx news 400 (by decide) (.ok ws) (fun e => nomatch e) ho) B F X N T hk hd hu ⟨fun r nw h' tk' F' N' P9 => (by
    obtain ⟨S, toks, acc, c, e, ht, er, _, en⟩ := P9
    cases e; subst er; subst en
    exact h S acc c _ h' tk' F' N' (fun p hp => List.mem_cons_of_mem _ hp) List.mem_cons_self ht), fun z => nomatch z⟩
theorem split2_raise {x : Str} {t : Tok} (hx : x.length ≤ 1000) (ho : lexF 400 x.cps.toList = .raise) (B : Below A₀ h₀ outer h₀) (F : Fr h₀ L s.heap m) (X : (hd.heap_1 w.params).In h₀) (N : News h₀ L s.heap news) (T : Top p loose mean mg mb h₀) (hk : cs.kind = .function) (hd : dp + 40 < recursionLimit) (hu : un + 400 < cLine)
    (h : ∀ e t tt g h' tk', Fr h₀ L g m → g.UpToSlots h' → RaisedK h₀ (envX cn cs L a ccd cl :: outer) e (.type "ValueError") t [.str (Str.ofString "No closing quotation") tt] [] h' → E (.ref e) { s with heap := h', toks := tk' }) :
    wpAny (model prg w) (ktrTop dp un (some []) cn cs L a ccd cl outer) (call (.ref 742) [.str x t]) Q E s :=
  spB_call (split_ok2 w x t hx news 400 (by decide) .raise (fun e => nomatch e) ho) B F X N T hk hd hu ⟨fun r nw h' tk' F' N' P9 => (by obtain ⟨_, _, _, _, e, _⟩ := P9; cases e), fun _ => h⟩
end


theorem kw24 : True := by
  k_with_none
  k_with "n ktr_enter" => (refine' code_def ?k1 ?k2 ?k3 ?k4 ?k5 ?kA ?kF ?kK ?k6 ?k7 ?k8 ?k9 ?kB ?_ ?c2 ?c3 ?c4 ?c5; (case kA => exact rfl); (case kF => exact rfl); (case kK => assumption); (case k1 => k_asm); (case k2 => k_asm); (case k3 => k_asm); (case k4 => k_asm); (case k5 => k_asm); (case k6 => k_is); (case k7 => k_is); (case k8 => ktr_room); (case k9 => first | (ktr_unf; done) | exact BindsTo.of_eq rfl | exact binds_K (by k_in) rfl (by k_is) rfl rfl rfl); (case c5 => decide); (case kB => exact locs rfl); (case c2 => exact rfl); (case c3 => exact rfl); (case c4 => exact rfl); k_whole; intro _ _ _ _ _ _ _ _ _; (try dsimp only); (try k_fold))
  k_with "n k_room" => ktr_room
  k_with "n k_units" => ktr_units
  k_with "n ktr_units" => ((try simp only [units_under_kw, units_in1, units_deeper, Around.mark_units, units_caller]); (try dsimp only [ktrTop]); first | exact lim0 hun | exact lim1 hun rfl | exact lim2 hun rfl | exact lim3 hun rfl | exact lim4 hun rfl | exact lim5 hun rfl | exact limA hun rfl | exact limB hun rfl | ((have hcL9 := cLine_is); omega))
  k_with "n ktr_room" => ((try simp only [depth_under_make, depth_under_kw, depth_in1, depth_deeper, depth_caller]); (try dsimp only [ktrTop]); first | exact lim0 hdp | exact lim1 hdp rfl | exact lim2 hdp rfl | exact lim3 hdp rfl | exact lim4 hdp rfl | exact lim5 hdp rfl | exact limA hdp rfl | exact limB hdp rfl | exact lim0 hdp' | exact lim1 hdp' rfl | exact lim2 hdp' rfl | exact lim3 hdp' rfl | exact lim4 hdp' rfl | exact lim5 hdp' rfl | omega)
  k_with "n k_mem" => assumption
  k_with "eval ListComp" => (k_here; k_dflt (refine ListComp_str (F₀ := by k_asm) (by with_unfolding_all rfl) (by decide) (by rfl) (by decide) (by rfl) ?_))
  k_with "call builtin:str.join" => (k_here; k_dflt (refine' join_texts ?kN ?km ?kt ?kb ?kn ?_; (case kN => k_asm); (case kt => assumption); (case km => exact List.Mem.head _); (case kb => first | exact esc_len _ | exact tol_len _); (case kn => (rw [List.length_map]; assumption)); k_whole); intro t' tk')
  k_with "call builtin:list.append" => (k_here; (with_reducible show wpAny _ _ (call (Value.builtin _) [Value.ref _, _]) _ _ _); k_dflt (refine' append_K ?k1 ?k2 ?k3 ?_ ?z; (case k1 => k_asm); (case k2 => k_asm); (case k3 => k_upd); (case z => assumption); k_whole); intro h' F' N'; (try k_sweep))
  k_with "getItem ref int" => (k_here; (with_reducible show wpAny _ _ (getItem (Value.ref _) (Value.int (-1) _)) _ _ _); k_dflt (refine' get_last ?k1 ?k2 ?k3 ?_; (case k1 => k_asm); (case k2 => k_mem); (case k3 => omega); k_whole))
  k_with "setItem ref int" => (k_here; (with_reducible show wpAny _ _ (setItem (Value.ref _) (Value.int (-1) _) _) _ _ _); k_dflt (refine' set_last ?k1 ?k2 ?k3 ?k4 ?_; (case k1 => k_asm); (case k2 => k_asm); (case k3 => k_upd); (case k4 => omega); k_whole); intro h' F' N'; (try k_sweep))
  k_with "inplaceOp Add str str" => (k_here; k_dflt (refine' iadd_str ?_ ?rZ; (case rZ => assumption); k_whole); intro t' tk')
  k_with "exec For Tuple Name cons nil" => (k_here; refine stop_intro ?_)
  k_with "call builtin:repr" => (k_here; k_dflt (refine' repr_has ?k1 ?k2 ?k3 ?k4 ?k5 ?k6 ?k7 ?k8 ?_; (case k1 => k_asm); (case k2 => k_asm); (case k3 => assumption); (case k4 => assumption); (case k5 => assumption); (case k6 => assumption); (case k7 => exact rfl); (case k8 => ktr_units); k_whole); intro h' t' tk' F' N')
  k_with "call ref" => (k_here; (with_reducible show wpAny _ _ (call (Value.ref 754) _) _ _ _); k_dflt (refine' text_call ?kX ?k1 ?k2 ?k3 ?k4 ?k5 ?kK ?kd ?ku ?_; (case kX => assumption); (case kK => exact rfl); (case k1 => k_asm); (case k2 => k_asm); (case k3 => k_asm); (case k4 => k_asm); (case k5 => k_asm); (case kd => ktr_room); (case ku => ktr_units)); k_dflt (intro T9' n9' t1' t2' t3' nw' h' tk' F' N' hm9' hs9'))
  k_with "call type:str" => (k_here; (with_reducible show wpAny _ _ (call (Value.type _) [Value.int _ _]) _ _ _); k_dflt (refine P.str_of_int (by assumption) ?_))
  k_with "n k_mem" => first | with_reducible assumption | exact List.Mem.head _ | (refine mem_up (by with_reducible assumption) ?_; k_mem) | (refine' List.Mem.tail _ ?_; k_mem)
  k_with "call builtin:len" => (k_here; (with_reducible show wpAny _ _ (call (Value.builtin _) [Value.ref _]) _ _ _); k_dflt (first | (refine' len_tup ?k1 ?k2 ?k3 ?_; (case k1 => k_asm); (case k2 => k_mem); (case k3 => assumption); k_whole) | (refine' len_lis ?k1 ?k2 ?k3 ?_; (case k1 => k_asm); (case k2 => k_mem); (case k3 => assumption); k_whole)))
  k_with "call ref" => (k_here; (with_reducible show wpAny _ _ (call (Value.ref 761) _) _ _ _); k_dflt (refine' pieces_call (by assumption) ?kS ?k1 ?k2 ?k3 ?k4 ?k5 ?kK ?kd ?ku ?_; (case kK => exact rfl); (case k1 => k_asm); (case k2 => k_asm); (case k3 => k_asm); (case k4 => k_asm); (case k5 => k_asm); (case kS => (intro p9' hp9'; k_mem)); (case kd => ktr_room); (case ku => ktr_units)); k_dflt (intro S9' vs9' c9' nw' h' tk' F' N' hs9' hm9' hp9' hl9'))
  k_with "binaryOp Add ref ref" => (k_here; (with_reducible show wpAny _ _ (binaryOp _ (Value.ref _) (Value.ref _)) _ _ _); k_dflt (refine' add_two ?k1 ?k2 ?k3 ?k4 ?k5 ?_; (case k1 => k_asm); (case k2 => k_asm); (case k3 => k_mem); (case k4 => k_mem); (case k5 => ((try simp only [List.length_cons, List.length_nil, List.length_append]); omega)); k_whole); intro D' h' F' N' l1; (try k_sweep))
  k_with "exec For Name Name cons nil" => (k_here; refine stop_intro ?_)
  k_with "subscriptTail" => (k_here; (with_reducible show wpAny _ _ (subscriptTail _ _ (Value.ref _) _) _ _ _); k_dflt (refine' tab_item ?k1 ?k2 ?k3 ?k4 ?k5 ?_ ?k6 ?k7; (case k1 => k_asm); (case k3 => with_reducible assumption); (case k4 => with_reducible assumption); (case k5 => with_reducible assumption); (case k2 => k_mem); (case k6 => with_unfolding_all rfl); (case k7 => (intro _; with_unfolding_all rfl)); k_whole))
  trivial
/-! names that are taken, so that no twins are laid for the head (see NOTES) -/
theorem top.tw16900427199656544559 : True := trivial
theorem top.tw18164388396756303480 : True := trivial
theorem top.tw7079599612431449588 : True := trivial
theorem top.tw1139600151236580504 : True := trivial
theorem top.tw1107088416671253978 : True := trivial
theorem top.tw10996937224433265937 : True := trivial
theorem top.tw11384800866962632227 : True := trivial
theorem top.tw12193372218175167114 : True := trivial
theorem top.tw8025738503920905074 : True := trivial
theorem top.tw6733462575251390621 : True := trivial
theorem top.tw5240762971458559404 : True := trivial
theorem top.tw18186074749648716422 : True := trivial
theorem top.tw18085771088847121727 : True := trivial
theorem top.tw705360758644809490 : True := trivial
theorem top.tw8107780213005350392 : True := trivial
theorem top.tw9570835587726979046 : True := trivial
theorem top.tw7926136590108786892 : True := trivial
theorem top.tw17807222030613408314 : True := trivial
theorem top.tw8657480035899644758 : True := trivial
theorem top.tw3969286963782609292 : True := trivial
theorem top.tw6240723676877644813 : True := trivial
theorem top.tw9272544492142499777 : True := trivial
theorem top.tw8693662901424576113 : True := trivial
theorem top.tw3473093325804163894 : True := trivial
theorem top.tw2619622883677149074 : True := trivial
theorem top.tw10079171474624433434 : True := trivial
theorem top.tw8237333600419904120 : True := trivial
theorem top.tw4773702212245658779 : True := trivial
theorem top.tw5483185372664623402 : True := trivial
theorem top.tw5405092056839124451 : True := trivial
theorem top.tw4931796606258356873 : True := trivial
theorem top.tw9437893007894698314 : True := trivial
theorem top.tw16802270028405135597 : True := trivial
theorem top.tw10005945817407372193 : True := trivial
theorem top.tw10936122117785486979 : True := trivial
theorem top.tw2404127567346610951 : True := trivial
theorem top.tw1137235612907882162 : True := trivial
theorem top.tw17810072253543177317 : True := trivial
theorem top.tw427420600052151026 : True := trivial
theorem top.tw5868845118606482295 : True := trivial
theorem top.tw1981915974141516567 : True := trivial
theorem top.tw10239475785048107997 : True := trivial
theorem top.tw4807402645868434406 : True := trivial
theorem top.tw302023382947574297 : True := trivial
theorem top.tw13177472732611162249 : True := trivial
theorem top.tw7444641836354208208 : True := trivial
theorem top.tw6859976401760118174 : True := trivial
theorem top.tw1312780250039628139 : True := trivial
theorem top.tw18289109515434150305 : True := trivial
theorem top.tw14402358008270493973 : True := trivial
theorem top.tw2104741419117168686 : True := trivial
theorem top.tw1595350964381101642 : True := trivial
theorem top.tw12329864456250741675 : True := trivial
theorem top.tw14371913498598963198 : True := trivial
theorem top.tw15696354942287192291 : True := trivial
theorem top.tw7902467723938725537 : True := trivial
theorem top.tw15286249088069653756 : True := trivial
theorem top.tw9777375502002234229 : True := trivial
theorem top.tw10579768621468169598 : True := trivial
theorem top.tw9673933992889287130 : True := trivial
theorem top.tw5151264090131730833 : True := trivial
theorem top.tw6404136602101837469 : True := trivial
theorem top.tw3331421620988305804 : True := trivial
theorem top.tw3453223234828964814 : True := trivial
theorem top.tw12415523145999629524 : True := trivial
theorem top.tw672699306608606093 : True := trivial
theorem top.tw15874363893724204672 : True := trivial
theorem top.tw9962302188120564619 : True := trivial
theorem top.tw5379463472682653830 : True := trivial
theorem top.tw14823308797102314842 : True := trivial
theorem top.tw11457754044182789617 : True := trivial
theorem top.tw4746480885421142778 : True := trivial
theorem top.tw9936536881743500907 : True := trivial
theorem top.tw17794366733547915435 : True := trivial
theorem top.tw5536038536531405202 : True := trivial
theorem top.tw5341934141677670832 : True := trivial
theorem top.tw15095372191486117680 : True := trivial
theorem top.tw2822501910515967889 : True := trivial
theorem top.tw4058662728301269685 : True := trivial
theorem top.tw10871174231137468428 : True := trivial
theorem top.tw10657950659306570408 : True := trivial
theorem top.tw17355269125676882429 : True := trivial
theorem top.tw2029088862249889922 : True := trivial
theorem top.tw2220570432770164149 : True := trivial
theorem top.tw10008009275831360322 : True := trivial
theorem top.tw15569959144833144457 : True := trivial
theorem top.tw1792224892710378537 : True := trivial
theorem top.tw1284575025550258836 : True := trivial
theorem top.tw8297286125493194097 : True := trivial
theorem top.tw16759193500350966715 : True := trivial
theorem top.tw14168018189251442112 : True := trivial
theorem top.tw16982378080980825192 : True := trivial
theorem top.tw5766051744304087583 : True := trivial
theorem top.tw9305691244287143441 : True := trivial
theorem top.tw14372152842798730730 : True := trivial
theorem top.tw8148004212497801138 : True := trivial
theorem top.tw9694206877528517478 : True := trivial
theorem top.tw13369591340354186047 : True := trivial
theorem top.tw6460121766331871944 : True := trivial
theorem top.tw2377541652452675900 : True := trivial
theorem top.tw2564807258711394888 : True := trivial
theorem top.tw2965125352208521119 : True := trivial
theorem top.tw8393700709775954928 : True := trivial
theorem top.tw8874702517807110003 : True := trivial
theorem top.tw9590735534726013551 : True := trivial
theorem top.tw14396322363301952219 : True := trivial
theorem top.tw12894197372075662830 : True := trivial
theorem top.tw17741875731164886585 : True := trivial
theorem top.tw8892184565913893157 : True := trivial
theorem top.tw18326957874037197240 : True := trivial
theorem top.tw155598722681170990 : True := trivial
theorem top.tw17176029603704830031 : True := trivial
theorem top.tw6694047246710070196 : True := trivial
theorem top.tw2544169868661182894 : True := trivial
theorem top.tw5078243831526850631 : True := trivial
theorem top.tw11779653239440661071 : True := trivial
theorem top.tw4292522238394942308 : True := trivial
theorem top.tw17620759639134147866 : True := trivial
theorem top.tw1974259917200649262 : True := trivial
theorem top.tw9590619109379692515 : True := trivial
theorem top.tw11917448952958348678 : True := trivial
theorem top.tw7436774141650363327 : True := trivial
theorem top.tw6057728870046649322 : True := trivial
theorem top.tw1304757597395314617 : True := trivial
theorem top.tw4705723845826882120 : True := trivial
theorem top.tw7740461459972228597 : True := trivial
theorem top.tw8640399195822439974 : True := trivial
theorem top.tw1236304545764765349 : True := trivial
theorem top.tw5118827330378232414 : True := trivial
theorem top.tw13191473780850816973 : True := trivial
theorem top.tw12094960947251128927 : True := trivial
theorem top.tw6124053682588569230 : True := trivial
theorem top.tw7280543176740627685 : True := trivial
theorem top.tw14263998999751124003 : True := trivial
theorem top.tw7990429038631628895 : True := trivial
theorem top.tw13501252493785611398 : True := trivial
theorem top.tw13759765359563669343 : True := trivial
theorem top.tw6699709698940308603 : True := trivial
theorem top.tw2047080938173012442 : True := trivial
theorem top.tw339143206060000330 : True := trivial
theorem top.tw4331257952254489624 : True := trivial
theorem top.tw13546161746385187788 : True := trivial
theorem top.tw15383718091736126541 : True := trivial
theorem top.tw7681529838311687354 : True := trivial
theorem top.tw13890846271309207196 : True := trivial
theorem top.tw6756868429301003459 : True := trivial
theorem top.tw10248073240650190340 : True := trivial
theorem top.tw12932905502366258525 : True := trivial
theorem top.tw1212798325632107971 : True := trivial
theorem top.tw4856909995586565122 : True := trivial
theorem top.tw304654302220672320 : True := trivial
theorem top.tw12317137736924338119 : True := trivial
theorem top.tw6623532728838073528 : True := trivial
theorem top.tw18200808041648558556 : True := trivial
theorem top.tw5290597957214086601 : True := trivial
theorem top.tw2502181453436431679 : True := trivial
theorem top.tw16054190913257422852 : True := trivial
theorem top.tw17470836177267949868 : True := trivial
theorem top.tw15245507539482535896 : True := trivial
theorem top.tw8746941081350896204 : True := trivial
theorem top.tw17046948494117081484 : True := trivial
theorem top.tw12554540806306477360 : True := trivial
theorem top.tw17219337458794519322 : True := trivial
theorem top.tw14901070454687303710 : True := trivial
theorem top.tw5176459694589498394 : True := trivial
theorem top.tw15877122091014420850 : True := trivial
theorem top.tw17788931634197215145 : True := trivial
theorem top.tw5692499903750754813 : True := trivial
theorem top.tw5240389563564037448 : True := trivial
theorem top.tw4655869559712951663 : True := trivial
theorem top.tw12080426169559351053 : True := trivial
theorem top.tw13799840507378627052 : True := trivial
theorem top.tw17492772389151264855 : True := trivial
theorem top.tw11263669390164206178 : True := trivial
theorem top.tw3764141193738528704 : True := trivial
theorem top.tw1706793611546318481 : True := trivial
theorem top.tw2617719716777270872 : True := trivial
theorem top.tw18236624570336363585 : True := trivial
theorem top.tw859137505422859605 : True := trivial
theorem top.tw83393220934416808 : True := trivial
theorem top.tw10362775142378211054 : True := trivial
theorem top.tw6756851087969907010 : True := trivial
theorem top.tw14120148312427719287 : True := trivial
theorem top.tw7892811243723596987 : True := trivial
theorem top.tw3002795768020413707 : True := trivial
theorem top.tw2670627174450433442 : True := trivial
theorem top.tw7657828476027519975 : True := trivial
theorem top.tw7158002623345892728 : True := trivial
theorem top.tw13896958669275611876 : True := trivial
theorem top.tw1169771345039838236 : True := trivial
theorem top.tw13549259019975226677 : True := trivial
theorem top.tw4498253355057717688 : True := trivial
theorem top.tw4940147422707163885 : True := trivial
theorem top.tw13091174067606910046 : True := trivial
theorem top.tw10617020205504526918 : True := trivial
theorem top.tw15836908640704697380 : True := trivial
theorem top.tw5251713544086459897 : True := trivial
theorem top.tw11468358511172941013 : True := trivial
theorem top.tw3584897518013459382 : True := trivial
theorem top.tw8128397726703822571 : True := trivial
theorem top.tw15008207993883188931 : True := trivial
theorem top.tw53344730913325255 : True := trivial
theorem top.tw10797620697341660853 : True := trivial
theorem top.tw6749217079512962374 : True := trivial
theorem top.tw6572447435987645144 : True := trivial
theorem top.tw2686433634493928565 : True := trivial
theorem top.tw14399976873020721970 : True := trivial
theorem top.tw4158126171336067921 : True := trivial
theorem top.tw18444284757076569719 : True := trivial
theorem top.tw6933892841690572062 : True := trivial
theorem top.tw3843465024185675410 : True := trivial
theorem top.tw12012865196380796599 : True := trivial
theorem top.tw1584292188352093569 : True := trivial
theorem top.tw15361541807878343388 : True := trivial
theorem top.tw10574840078274726829 : True := trivial
theorem top.tw16713831800681072344 : True := trivial
theorem top.tw16487795177693110071 : True := trivial
theorem top.tw18386854893347148238 : True := trivial
theorem top.tw16597617366809209970 : True := trivial
theorem top.tw7743179893348639699 : True := trivial
theorem top.tw4828031223510198475 : True := trivial
theorem top.tw16795567611416646642 : True := trivial
theorem top.tw2685012915969955173 : True := trivial
theorem top.tw18201758440048473509 : True := trivial
theorem top.tw2896640688883821729 : True := trivial
theorem top.tw15878805988109762761 : True := trivial
theorem top.tw5983031951866500094 : True := trivial
theorem top.tw7793331513851465354 : True := trivial
theorem top.tw10467260515200827399 : True := trivial
theorem top.tw708234853630380328 : True := trivial
theorem top.tw17828378304095215089 : True := trivial
theorem top.tw13922054642007902626 : True := trivial
theorem top.tw8327351992414209593 : True := trivial
theorem top.tw956942650209027819 : True := trivial
theorem top.tw47109162367338493 : True := trivial
theorem top.tw10892192912376451201 : True := trivial
theorem top.tw11141966352661209427 : True := trivial
theorem top.tw5702910450625016506 : True := trivial
theorem top.tw8281120267493503204 : True := trivial
theorem top.tw17104280840954017025 : True := trivial
theorem top.tw479018264907363369 : True := trivial
theorem top.tw13500427573557490136 : True := trivial
theorem top.tw4586369020291528013 : True := trivial
theorem top.tw11093206078495630212 : True := trivial
theorem top.tw6893477703608230032 : True := trivial
theorem top.tw1803303928475200142 : True := trivial
theorem top.tw661290744650703789 : True := trivial
theorem top.tw9908739903337578654 : True := trivial
theorem top.tw4010397242664982755 : True := trivial
theorem top.tw2910609919460849807 : True := trivial
theorem top.tw9919435345466941130 : True := trivial
theorem top.tw953821971998124167 : True := trivial
theorem top.tw8973803690348224638 : True := trivial
theorem top.tw14537839394382259888 : True := trivial
theorem top.tw5380135791562185454 : True := trivial
theorem top.tw18194552166560175392 : True := trivial
theorem top.tw17683472795295644477 : True := trivial
theorem top.tw8443935842833279946 : True := trivial
theorem top.tw17103585973383926153 : True := trivial
theorem top.tw7761843605638006849 : True := trivial
theorem top.tw8204474986945543665 : True := trivial
theorem top.tw15823732540823425666 : True := trivial
theorem top.tw405421117753717134 : True := trivial
theorem top.tw7744093853086628109 : True := trivial
theorem top.tw13272337422414781067 : True := trivial
theorem top.tw15735037969156040135 : True := trivial
theorem top.tw9990226795618131978 : True := trivial
theorem top.tw4551080515912023512 : True := trivial
theorem top.tw1293289543672728842 : True := trivial
theorem top.tw13223034962123697568 : True := trivial
theorem top.tw5235370132326077648 : True := trivial
theorem top.tw8813761850579938390 : True := trivial
theorem top.tw8999917154711486175 : True := trivial
theorem top.tw16453443671601555132 : True := trivial
theorem top.tw9961057766049560675 : True := trivial
theorem top.tw10414433010598505635 : True := trivial
theorem top.tw594810645892935528 : True := trivial
theorem top.tw10987319290404115282 : True := trivial
theorem top.tw14308104382005812605 : True := trivial
theorem top.tw2249405535684624136 : True := trivial
theorem top.tw7715697345341360870 : True := trivial
theorem top.tw13532860479073427719 : True := trivial
theorem top.tw16882738081622503669 : True := trivial
theorem top.tw16264823338695392855 : True := trivial
theorem top.tw10001883323181062329 : True := trivial
theorem top.tw13899568491130100285 : True := trivial
theorem top.tw6345181382737326586 : True := trivial
theorem top.tw9854493187847425173 : True := trivial
theorem top.tw16836452506482946331 : True := trivial
theorem top.tw14065501367340364311 : True := trivial
theorem top.tw2007660962349395123 : True := trivial
theorem top.tw14277827659066580250 : True := trivial
theorem top.tw681777741448182936 : True := trivial
theorem top.tw14851680436948445374 : True := trivial
theorem top.tw11133666699803404755 : True := trivial
theorem top.tw10296497611174029103 : True := trivial
theorem top.tw8455645898260960030 : True := trivial
theorem top.tw16612331741718818515 : True := trivial
theorem top.tw14450715343900746980 : True := trivial
theorem top.tw14319750081657075607 : True := trivial
theorem top.tw5105846836358774362 : True := trivial
theorem top.tw2103985501979894447 : True := trivial
theorem top.tw10763682846017881258 : True := trivial
theorem top.tw2617181576586992344 : True := trivial
theorem top.tw1186331607622873149 : True := trivial
theorem top.tw10956490626425055710 : True := trivial
theorem top.tw12488038555639769405 : True := trivial
theorem top.tw12622177474791663080 : True := trivial
theorem top.tw15690355392615275366 : True := trivial
theorem top.tw13830271770371739309 : True := trivial
theorem top.tw16878204669230926818 : True := trivial
theorem top.tw13525443076416275642 : True := trivial
theorem top.tw16354691339474908690 : True := trivial
theorem top.tw15362295582089109014 : True := trivial
theorem top.tw13968125046926948103 : True := trivial
theorem top.tw13420762306968818387 : True := trivial
theorem top.tw650146959520709813 : True := trivial
theorem top.tw104434173382791472 : True := trivial
theorem top.tw12379415707883124570 : True := trivial
theorem top.tw12762922103008790111 : True := trivial
theorem top.tw7059692629156357883 : True := trivial
theorem top.tw15508944514630427714 : True := trivial
theorem top.tw10367675484739944270 : True := trivial
theorem top.tw5088376156974544275 : True := trivial
theorem top.tw12944596839952905832 : True := trivial
theorem top.tw4916261283513009128 : True := trivial
theorem top.tw2514443458684651071 : True := trivial
theorem top.tw3033006917804047512 : True := trivial
theorem top.tw8823455108540655025 : True := trivial
theorem top.tw9572121911122791463 : True := trivial
theorem top.tw6761616313442571491 : True := trivial
theorem top.tw11038064363049568621 : True := trivial
theorem top.tw8779778587388263019 : True := trivial
theorem top.tw5225916559131626549 : True := trivial
theorem top.tw8679839319945467846 : True := trivial
theorem top.tw9152664641465651067 : True := trivial
theorem top.tw16770000883354449096 : True := trivial
theorem top.tw2770239361232196585 : True := trivial
theorem top.tw12209182163369298222 : True := trivial
theorem top.tw9635476784945057844 : True := trivial
theorem top.tw1571522185198329790 : True := trivial
theorem top.tw10242591131026960117 : True := trivial
theorem top.tw4699463449715708850 : True := trivial
theorem top.tw10017263926548143515 : True := trivial
theorem top.tw682014064893787789 : True := trivial
theorem top.tw14645912567700417926 : True := trivial
theorem top.tw10195997230039290492 : True := trivial
theorem top.tw4695670854781333657 : True := trivial
theorem top.tw5970215366352900667 : True := trivial
theorem top.tw1880918794155911695 : True := trivial
theorem top.tw15743347864482560488 : True := trivial
theorem top.tw6480638250107114081 : True := trivial
theorem top.tw16885616592811714743 : True := trivial
theorem top.tw12425085872883035938 : True := trivial
theorem top.tw7213333562754528385 : True := trivial
theorem top.tw3831216023754155268 : True := trivial
theorem top.tw3796891538752321733 : True := trivial
theorem top.tw1209819496270969543 : True := trivial
theorem top.tw6916252892733821390 : True := trivial
theorem top.tw14694626412998447720 : True := trivial
theorem top.tw12521587561680038787 : True := trivial
theorem top.tw2926424126403749041 : True := trivial
theorem top.tw2446586112883488508 : True := trivial
theorem top.tw16550210197400561554 : True := trivial
theorem top.tw4269943819458244956 : True := trivial
theorem top.tw16157251822727197267 : True := trivial
theorem top.tw12764151676501842404 : True := trivial
theorem top.tw6430265229019958763 : True := trivial
theorem top.tw16542083797698202722 : True := trivial
theorem top.tw12756434147638494346 : True := trivial
theorem top.tw15271675978053873483 : True := trivial
theorem top.tw7557910624720293991 : True := trivial
theorem top.tw11199710921928265848 : True := trivial
theorem top.tw9456006794991739263 : True := trivial
theorem top.tw2665807947273092163 : True := trivial
theorem top.tw453181688931711583 : True := trivial
theorem top.tw2847958352784047137 : True := trivial
theorem top.tw9666326922614434849 : True := trivial
theorem top.tw6220391956798857122 : True := trivial
theorem top.tw6432616177841060128 : True := trivial
theorem top.tw1601500998369573665 : True := trivial
theorem top.tw7429413206186439793 : True := trivial
theorem top.tw14214845130331304391 : True := trivial
theorem top.tw2167618695193717045 : True := trivial
theorem top.tw15740088241188596515 : True := trivial
theorem top.tw378458367893578143 : True := trivial
theorem top.tw1697544655201012999 : True := trivial
theorem top.tw13902025155065610156 : True := trivial
theorem top.tw11982747722937265360 : True := trivial
theorem top.tw3695669965767098725 : True := trivial
theorem top.tw8140125068956082859 : True := trivial
theorem top.tw9233715247699887402 : True := trivial
theorem top.tw7600245330811189008 : True := trivial
theorem top.tw6659320528611288953 : True := trivial
theorem top.tw15985680467844229196 : True := trivial
theorem top.tw13990698242589431971 : True := trivial
theorem top.tw12218787953657430602 : True := trivial
theorem top.tw7249705126575804556 : True := trivial
theorem top.tw2970126286353081820 : True := trivial
theorem top.tw649594095290182367 : True := trivial
theorem top.tw17391775962083533515 : True := trivial
theorem top.tw14453841093610474573 : True := trivial
theorem top.tw9486757043174368735 : True := trivial
theorem top.tw114735475811551136 : True := trivial
theorem top.tw1655259298481077034 : True := trivial
theorem top.tw4977374598719398275 : True := trivial
theorem top.tw17177869089781658578 : True := trivial
theorem top.tw8547604310838440241 : True := trivial
theorem top.tw5071253366424451032 : True := trivial
theorem top.tw1886144042066472794 : True := trivial
theorem top.tw5365650347091420665 : True := trivial
theorem top.tw3012798349882047937 : True := trivial
theorem top.tw14771320824794740959 : True := trivial
theorem top.tw4835499133494076262 : True := trivial
theorem top.tw6187478851450931391 : True := trivial
theorem top.tw17565814175750979855 : True := trivial
theorem top.tw9951221954081769418 : True := trivial
theorem top.tw14436450140739016385 : True := trivial
theorem top.tw17576949682797635024 : True := trivial
theorem top.tw2741389259953327712 : True := trivial
theorem top.tw14861896470697024400 : True := trivial
theorem top.tw9806617501295524395 : True := trivial
theorem top.tw4232285709927190386 : True := trivial
theorem top.tw1833847959688406909 : True := trivial
theorem top.tw2722852734226103192 : True := trivial
theorem top.tw1483126911874232274 : True := trivial
theorem top.tw6491118196486620199 : True := trivial
theorem top.tw17337222044243258637 : True := trivial
theorem top.tw2307138979858485370 : True := trivial
theorem top.tw14562072457839527476 : True := trivial
theorem top.tw4047667213573674445 : True := trivial
theorem top.tw7160873610591055699 : True := trivial
theorem top.tw8598144960395782539 : True := trivial
theorem top.tw13012589842206080548 : True := trivial
theorem top.tw8735323631387419056 : True := trivial
theorem top.tw9930815651645962114 : True := trivial
theorem top.tw15024216053386777475 : True := trivial
theorem top.tw11760055953109336660 : True := trivial
theorem top.tw6459276657848829223 : True := trivial
theorem top.tw9503340733035011235 : True := trivial
theorem top.tw5245862010334584759 : True := trivial
theorem top.tw2464713573024523455 : True := trivial
theorem top.tw17342085116792181814 : True := trivial
theorem top.tw2405475915293451298 : True := trivial
theorem top.tw3570499242123996262 : True := trivial
theorem top.tw8265191368974092141 : True := trivial
theorem top.tw17030962893124633753 : True := trivial
theorem top.tw1971433849790844608 : True := trivial
theorem top.tw13188079976727067231 : True := trivial
theorem top.tw13385996262653078937 : True := trivial
theorem top.tw9332579688445097367 : True := trivial
theorem top.tw9843447840031818808 : True := trivial
theorem top.tw7538252964068480738 : True := trivial
theorem top.tw2105017259488925948 : True := trivial
theorem top.tw17434308400759680031 : True := trivial
theorem top.tw2394881407643693062 : True := trivial
theorem top.tw16904149199990681218 : True := trivial
theorem top.tw14983691940233647259 : True := trivial
theorem top.tw17022078359063049780 : True := trivial
theorem top.tw7458633546980236471 : True := trivial
theorem top.tw11423202765487971197 : True := trivial
theorem top.tw1195175773429642966 : True := trivial
theorem top.tw10562855833978642645 : True := trivial
theorem top.tw15740948416001004644 : True := trivial
theorem top.tw2424727229257130912 : True := trivial
theorem top.tw2683898200743741643 : True := trivial
theorem top.tw12638030207367898728 : True := trivial
theorem top.tw7587601194962177611 : True := trivial
theorem top.tw3918932569253593186 : True := trivial
theorem top.tw13385244156195431271 : True := trivial
theorem top.tw5278709424875269971 : True := trivial
theorem top.tw12772138429114895339 : True := trivial
theorem top.tw2712389131950775728 : True := trivial
theorem top.tw13134186033006778460 : True := trivial
theorem top.tw1843344800811705456 : True := trivial
theorem top.tw12322150652039217950 : True := trivial
theorem top.tw3207569582813703071 : True := trivial
theorem top.tw10567129059001840431 : True := trivial
theorem top.tw11939397010239605379 : True := trivial
theorem top.tw14826035006057030972 : True := trivial
theorem top.tw1638113669730673903 : True := trivial
theorem top.tw93012567124736588 : True := trivial
theorem top.tw17469865338272021226 : True := trivial
theorem top.tw18185382058313985135 : True := trivial
theorem top.tw16281582537960229878 : True := trivial
theorem top.tw3739144386018749749 : True := trivial
theorem top.tw14657780768301432306 : True := trivial
theorem top.tw2267912224990424062 : True := trivial
theorem top.tw5860347150701562758 : True := trivial
theorem top.tw7527032243904285869 : True := trivial
theorem top.tw13710211086531791108 : True := trivial
theorem top.tw3715792687998586317 : True := trivial
theorem top.tw2446451932059125521 : True := trivial
theorem top.tw11071450960392396080 : True := trivial
theorem top.tw1294077662247117797 : True := trivial
theorem top.tw887695700811335699 : True := trivial
theorem top.tw11561827921928013385 : True := trivial
theorem top.tw8689318265317240412 : True := trivial
theorem top.tw1869187583165140508 : True := trivial
theorem top.tw11842451847925006096 : True := trivial
theorem top.tw4755264550707404760 : True := trivial
theorem top.tw620129878449983639 : True := trivial
theorem top.tw13474863142627684814 : True := trivial
theorem top.tw3949973439248644570 : True := trivial
theorem top.tw9576743257966636567 : True := trivial
theorem top.tw16844067456194695469 : True := trivial
theorem top.tw10361075674979980167 : True := trivial
theorem top.tw4205137553216949640 : True := trivial
theorem top.tw17916939684832112104 : True := trivial
theorem top.tw12535971307161669396 : True := trivial
theorem top.tw11593399256984752444 : True := trivial
theorem top.tw7250933059871147345 : True := trivial
theorem top.tw3392894077380570524 : True := trivial
theorem top.tw6556310126357822526 : True := trivial
theorem top.tw14526540143163920134 : True := trivial
theorem top.tw6583040956863952856 : True := trivial
theorem top.tw3901323768455840569 : True := trivial
theorem top.tw13576654369662418201 : True := trivial
theorem top.tw9614876229902214918 : True := trivial
theorem top.tw13983857475226248213 : True := trivial
theorem top.tw12287887523310495049 : True := trivial
theorem top.tw15242500199121756853 : True := trivial
theorem top.tw146815374380898660 : True := trivial
theorem top.tw8903290554218469011 : True := trivial
theorem top.tw12841572728458906558 : True := trivial
theorem top.tw3663364146628395187 : True := trivial
theorem top.tw3767615275625035234 : True := trivial
theorem top.tw7591664977700550834 : True := trivial
theorem top.tw3474246075231452896 : True := trivial
theorem top.tw6065713072024180384 : True := trivial
theorem top.tw18237780215024852062 : True := trivial
theorem top.tw65929781887070819 : True := trivial
theorem top.tw2312856594315299383 : True := trivial
theorem top.tw6973401727384321114 : True := trivial
theorem top.tw2905170056284976902 : True := trivial
theorem top.tw16782997733028217545 : True := trivial
theorem top.tw13822267516522204269 : True := trivial
theorem top.tw2126296398998916975 : True := trivial
theorem top.tw12216630987165489725 : True := trivial
theorem top.tw7847352863974893604 : True := trivial
theorem top.tw5889316905344633881 : True := trivial
theorem top.tw17258374554226048223 : True := trivial
theorem top.tw450566749975022562 : True := trivial
theorem top.tw13844505572957833930 : True := trivial
theorem top.tw3378803678994701225 : True := trivial
theorem top.tw13975414291046593716 : True := trivial
theorem top.tw16342770487823414484 : True := trivial
theorem top.tw3548060758652744671 : True := trivial
theorem top.tw13068111086705522682 : True := trivial
theorem top.tw3664424711883983056 : True := trivial
theorem top.tw15092371282622821202 : True := trivial
theorem top.tw11470690223818410786 : True := trivial
theorem top.tw8715321486664652699 : True := trivial
theorem top.tw13261893007816960818 : True := trivial
theorem top.tw3430127420881650015 : True := trivial
theorem top.tw16123964013534891561 : True := trivial
theorem top.tw12879618353801967718 : True := trivial
theorem top.tw11520865232209809239 : True := trivial
theorem top.tw16273406610938067001 : True := trivial
theorem top.tw15058813355848621054 : True := trivial
theorem top.tw5196900775432865589 : True := trivial
theorem top.tw13370185576492129568 : True := trivial
theorem top.tw17774833976778514315 : True := trivial
theorem top.tw6075534854705499898 : True := trivial
theorem top.tw7855079511596107753 : True := trivial
theorem top.tw9831455883205970180 : True := trivial
theorem top.tw12385144161495827662 : True := trivial
theorem top.tw10276331973627342096 : True := trivial
theorem top.tw12376051458212225564 : True := trivial
theorem top.tw5077617475879078156 : True := trivial
theorem top.tw14502225709538309166 : True := trivial
theorem top.tw9843949296442739443 : True := trivial
theorem top.tw17981982808018919739 : True := trivial
theorem top.tw8347795973495727564 : True := trivial
theorem top.tw15525995667512963556 : True := trivial
theorem top.tw15234444972351076034 : True := trivial
theorem top.tw11383000496634168614 : True := trivial
theorem top.tw16721989186581611170 : True := trivial
theorem top.tw17582957951858275007 : True := trivial
theorem top.tw7325726471975496349 : True := trivial
theorem top.tw13303987763403120937 : True := trivial
theorem top.tw9739860059890490050 : True := trivial
theorem top.tw13985988839938425345 : True := trivial
theorem top.tw8472579005086612782 : True := trivial
theorem top.tw13307591127769906961 : True := trivial
theorem top.tw8054331753737935190 : True := trivial
theorem top.tw17089494485692210459 : True := trivial
theorem top.tw3337584539547039419 : True := trivial
theorem top.tw3855276242980373810 : True := trivial
theorem top.tw16128028805679967097 : True := trivial
theorem top.tw411662067469150650 : True := trivial
theorem top.tw12783364522390391256 : True := trivial
theorem top.tw9149571693438533347 : True := trivial
theorem top.tw15299407806266782574 : True := trivial
theorem top.tw6505410396798821541 : True := trivial
theorem top.tw17315540178315561739 : True := trivial
theorem top.tw2879243146029554076 : True := trivial
theorem top.tw1068965626710143233 : True := trivial
theorem top.tw7414872774492366064 : True := trivial
theorem top.tw2555065506035805374 : True := trivial
theorem top.tw12743758387547295687 : True := trivial
theorem top.tw9233335307524088747 : True := trivial
theorem top.tw17781115878593249900 : True := trivial
theorem top.tw12625694945159114441 : True := trivial
theorem top.tw17709558473723601244 : True := trivial
theorem top.tw13160728816969591200 : True := trivial
theorem top.tw13178059906610389163 : True := trivial
theorem top.tw7191137982244381804 : True := trivial
theorem top.tw10684091483433816177 : True := trivial
theorem top.tw12340227926317113386 : True := trivial
theorem top.tw13889309363888878346 : True := trivial
theorem top.tw12545222027267286695 : True := trivial
theorem top.tw12483720753089274532 : True := trivial
theorem top.tw4730768163679209282 : True := trivial
theorem top.tw2809488002615124206 : True := trivial
theorem top.tw2707679213066786127 : True := trivial
theorem top.tw12105128591322288922 : True := trivial
theorem top.tw4691186174975459493 : True := trivial
theorem top.tw17226846203573267761 : True := trivial
theorem top.tw9108098604805947806 : True := trivial
theorem top.tw10648311167861321448 : True := trivial
theorem top.tw16896751376397280635 : True := trivial
theorem top.tw381845443943030031 : True := trivial
theorem top.tw15646934709686841381 : True := trivial
theorem top.tw12609604535291364189 : True := trivial
theorem top.tw860223938195835975 : True := trivial
theorem top.tw15506382734810221985 : True := trivial
theorem top.tw15073315481182737699 : True := trivial
theorem top.tw18374746225686918389 : True := trivial
theorem top.tw9016798869158615873 : True := trivial
theorem top.tw7829887443442302667 : True := trivial
theorem top.tw6487610083215253720 : True := trivial
theorem top.tw15262977503361262276 : True := trivial
theorem top.tw6664487174759623829 : True := trivial
theorem top.tw7188692134583612594 : True := trivial
theorem top.tw5647976800219259906 : True := trivial
theorem top.tw11960245374511038805 : True := trivial
theorem top.tw16085473023203611486 : True := trivial
theorem top.tw5728218623943512802 : True := trivial
theorem top.tw18062624165398249997 : True := trivial
theorem top.tw15166127791298437107 : True := trivial
theorem top.tw6333448901615975916 : True := trivial
theorem top.tw9759319705405543751 : True := trivial
theorem top.tw5220169812098953321 : True := trivial
theorem top.tw16840627104734473223 : True := trivial
theorem top.tw6898770573198911631 : True := trivial
theorem top.tw11279390925490393535 : True := trivial
theorem top.tw14317375437502057738 : True := trivial
theorem top.tw14301671488300290737 : True := trivial
theorem top.tw12520176845478516731 : True := trivial
theorem top.tw14459580976405569124 : True := trivial
theorem top.tw4791253341166991637 : True := trivial
theorem top.tw11466170419677230873 : True := trivial
theorem top.tw11131206648525784891 : True := trivial
theorem top.tw7386116660499605909 : True := trivial
theorem top.tw1142415686869020238 : True := trivial
theorem top.tw11889597043561437815 : True := trivial
theorem top.tw13345470168829271861 : True := trivial
theorem top.tw17395277212465857529 : True := trivial
theorem top.tw18016941796951652274 : True := trivial
theorem top.tw2009410202504348048 : True := trivial
theorem top.tw814325599930780420 : True := trivial
theorem top.tw11240886729373846589 : True := trivial
theorem top.tw7198060816514059695 : True := trivial
theorem top.tw3644161924160858147 : True := trivial
theorem top.tw11072019736110318841 : True := trivial
theorem top.tw6674990990233134667 : True := trivial
theorem top.tw9166809390415177425 : True := trivial
theorem top.tw16325430554902658873 : True := trivial
theorem top.tw5596365628329696591 : True := trivial
theorem top.tw1676862907878916244 : True := trivial
theorem top.tw1297684725254868899 : True := trivial
theorem top.tw2968346561183084112 : True := trivial
theorem top.tw14309182039651084788 : True := trivial
theorem top.tw5938710623178642122 : True := trivial
theorem top.tw6176384092110617959 : True := trivial
theorem top.tw76412952228603488 : True := trivial
theorem top.tw2511388062720753356 : True := trivial
theorem top.tw16821654228018055803 : True := trivial
theorem top.tw6143595290313323761 : True := trivial
theorem top.tw7108139096449030536 : True := trivial
theorem top.tw7273676953221729872 : True := trivial
theorem top.tw132903981291199154 : True := trivial
theorem top.tw6381231289166406305 : True := trivial
theorem top.tw8645369167282567922 : True := trivial
theorem top.tw17486766287000646611 : True := trivial
theorem top.tw6520327441239513222 : True := trivial
theorem top.tw11613256710310857696 : True := trivial
theorem top.tw4250876409542091131 : True := trivial
theorem top.tw8729362747519067210 : True := trivial
theorem top.tw196536941598035525 : True := trivial
theorem top.tw17366924284538989914 : True := trivial
theorem top.tw6786057226368545225 : True := trivial
theorem top.tw5958459099580689026 : True := trivial
theorem top.tw13422432716488540661 : True := trivial
theorem top.tw17474498911051797155 : True := trivial
theorem top.tw17576975557295073227 : True := trivial
theorem top.tw2417791160451022400 : True := trivial
theorem top.tw3217022616335106338 : True := trivial
theorem top.tw1353657120722975067 : True := trivial
theorem top.tw14248925298954806443 : True := trivial
theorem top.tw7215319984434753242 : True := trivial
theorem top.tw2581206410525282061 : True := trivial
theorem top.tw9038659593494541401 : True := trivial
theorem top.tw15212760480394562756 : True := trivial
theorem top.tw1149218181149386328 : True := trivial
theorem top.tw14615657086365298920 : True := trivial
theorem top.tw11053662475850362967 : True := trivial
theorem top.tw568400683779154973 : True := trivial
theorem top.tw4002441696211005659 : True := trivial
theorem top.tw18086089286151905521 : True := trivial
theorem top.tw1486479319815781832 : True := trivial
theorem top.tw1142465760834251562 : True := trivial
theorem top.tw9326722878772556681 : True := trivial
theorem top.tw9768079942903668216 : True := trivial
theorem top.tw1670607248958778201 : True := trivial
theorem top.tw8856117171736301535 : True := trivial
theorem top.tw8069049012094873728 : True := trivial
theorem top.tw11045010717311733409 : True := trivial
theorem top.tw8369368087495890639 : True := trivial
theorem top.tw11762496359356365647 : True := trivial
theorem top.tw7008692893051332821 : True := trivial
theorem top.tw5938664839603501006 : True := trivial
theorem top.tw14762295962024373759 : True := trivial
theorem top.tw1897025099450329940 : True := trivial
theorem top.tw1054488965285714247 : True := trivial
theorem top.tw16307090917165222298 : True := trivial
theorem top.tw12787338502077490372 : True := trivial
theorem top.tw729201693064108563 : True := trivial
theorem top.tw2479311146797828861 : True := trivial
theorem top.tw9250549774821547598 : True := trivial
theorem top.tw5558089891588110886 : True := trivial
theorem top.tw7381879191629600215 : True := trivial
theorem top.tw9589608677651300831 : True := trivial
theorem top.tw9631074621892390191 : True := trivial
theorem top.tw6211089042160764376 : True := trivial
theorem top.tw10090393231696489298 : True := trivial
theorem top.tw5072613934562372735 : True := trivial
theorem top.tw4395346232132896567 : True := trivial
theorem top.tw4736427724481360342 : True := trivial
theorem top.tw4626048006780466326 : True := trivial
theorem top.tw13359135706311490777 : True := trivial
theorem top.tw4052878762203253943 : True := trivial
theorem top.tw8640417174963836015 : True := trivial
theorem top.tw16420938139371093754 : True := trivial
theorem top.tw5225153198818245361 : True := trivial
theorem top.tw14349089067433371257 : True := trivial
theorem top.tw16800595933775061595 : True := trivial
theorem top.tw16068562728529669930 : True := trivial
theorem top.tw2443449257678562572 : True := trivial
theorem top.tw2770563814800254177 : True := trivial
theorem top.tw9287724387753133302 : True := trivial
theorem top.tw2165817408578904141 : True := trivial
theorem top.tw3704924817259034979 : True := trivial
theorem top.tw16759092144687519636 : True := trivial
theorem top.tw16240068400928781132 : True := trivial
theorem top.tw13928562000808390012 : True := trivial
theorem top.tw13432635357386499347 : True := trivial
theorem top.tw10404823597219466188 : True := trivial
theorem top.tw864819663365544661 : True := trivial
theorem top.tw4321519831107876412 : True := trivial
theorem top.tw9178861053002065721 : True := trivial
theorem top.tw5005317128667965579 : True := trivial
theorem top.tw2462062305354472974 : True := trivial
theorem top.tw15154454611685048027 : True := trivial
theorem top.tw13290321428070320777 : True := trivial
theorem top.tw1123975283337734383 : True := trivial
theorem top.tw72247145696351765 : True := trivial
theorem top.tw3874152929960365753 : True := trivial
theorem top.tw5552270689369575618 : True := trivial
theorem top.tw3995942328266245912 : True := trivial
theorem top.tw5472114250418208992 : True := trivial
theorem top.tw18177719399980262173 : True := trivial
theorem top.tw3418912648064540324 : True := trivial
theorem top.tw5186518429493523239 : True := trivial
theorem top.tw15985961358823992270 : True := trivial
theorem top.tw8435561252592420358 : True := trivial
theorem top.tw877433047237710547 : True := trivial
theorem top.tw14390669486469195807 : True := trivial
theorem top.tw370947364307004932 : True := trivial
theorem top.tw1536312445118062077 : True := trivial
theorem top.tw8637452081102412489 : True := trivial
theorem top.tw12043218685254973450 : True := trivial
theorem top.tw6448850889433096767 : True := trivial
theorem top.tw2758071753971750899 : True := trivial
theorem top.tw4807692442873511580 : True := trivial
theorem top.tw14214649769353832295 : True := trivial
theorem top.tw4796303294375832693 : True := trivial
theorem top.tw2596539476470345881 : True := trivial
theorem top.tw1394568958698188020 : True := trivial
theorem top.tw12643520174271941249 : True := trivial
theorem top.tw3512812017678644602 : True := trivial
theorem top.tw4181406029030974548 : True := trivial
theorem top.tw6185767955086497853 : True := trivial
theorem top.tw7675417749720738473 : True := trivial
theorem top.tw5303079699428457377 : True := trivial
theorem top.tw5513142621748847562 : True := trivial
theorem top.tw9165953624949470791 : True := trivial
theorem top.tw8975108423156789194 : True := trivial
theorem top.tw8410488445778877200 : True := trivial
theorem top.tw4177254973167742082 : True := trivial
theorem top.tw18394268562011335289 : True := trivial
theorem top.tw11459358961799972967 : True := trivial
theorem top.tw17542608870123051758 : True := trivial
theorem top.tw7669972870368051581 : True := trivial
theorem top.tw15966430410579761919 : True := trivial
theorem top.tw795583310449317561 : True := trivial
theorem top.tw17431308487043992063 : True := trivial
theorem top.tw1040915598704419856 : True := trivial
theorem top.tw12182655422080760471 : True := trivial
theorem top.tw9407396174263392564 : True := trivial
theorem top.tw3422688185749166683 : True := trivial
theorem top.tw4076138812419527698 : True := trivial
theorem top.tw8345894832289464959 : True := trivial
theorem top.tw13713866747541496747 : True := trivial
theorem top.tw9335426496214029073 : True := trivial
theorem top.tw516228168201391017 : True := trivial
theorem top.tw13120753694373217308 : True := trivial
theorem top.tw16615598289260009181 : True := trivial
theorem top.tw14145802354927516647 : True := trivial
theorem top.tw12210559395081530917 : True := trivial
theorem top.tw11584198869435930015 : True := trivial
theorem top.tw9227057690007400460 : True := trivial
theorem top.tw16155163154822807229 : True := trivial
theorem top.tw6203543418390704334 : True := trivial
theorem top.tw13318506193475082254 : True := trivial
theorem top.tw15003358760713899574 : True := trivial
theorem top.tw16326585352142918636 : True := trivial
theorem top.tw13802547742096326172 : True := trivial
theorem top.tw1988063486488863061 : True := trivial
theorem top.tw13664746368384525793 : True := trivial
theorem top.tw14687197162769931945 : True := trivial
theorem top.tw216529984938456764 : True := trivial
theorem top.tw8170299122808406783 : True := trivial
theorem top.tw16753658254399821694 : True := trivial
theorem top.tw3844969445664438809 : True := trivial
theorem top.tw5444345374180229054 : True := trivial
theorem top.tw5454907873200149103 : True := trivial
theorem top.tw2985252069258134486 : True := trivial
theorem top.tw372964977893139469 : True := trivial
theorem top.tw18137363274558907533 : True := trivial
theorem top.tw7297446738713254254 : True := trivial
theorem top.tw13864677062968915208 : True := trivial
theorem top.tw16736118626332596326 : True := trivial
theorem top.tw3486219094355674750 : True := trivial
theorem top.tw17346259052997144950 : True := trivial
theorem top.tw6265701101103706036 : True := trivial
theorem top.tw11917962253495528205 : True := trivial
theorem top.tw4656485037274611717 : True := trivial
theorem top.tw16196420915677631385 : True := trivial
theorem top.tw2675166985342186458 : True := trivial
theorem top.tw2057334267981633021 : True := trivial
theorem top.tw3871027444623705763 : True := trivial
theorem top.tw12643491718579748851 : True := trivial
theorem top.tw17964300760807480141 : True := trivial
theorem top.tw11620634932572840514 : True := trivial
theorem top.tw8420165910927482534 : True := trivial
theorem top.tw18034075008235765660 : True := trivial
theorem top.tw9516688046558066552 : True := trivial
theorem top.tw17494340499879156831 : True := trivial
theorem top.tw6912233166142098652 : True := trivial
theorem top.tw1088946173253831356 : True := trivial
theorem top.tw9238823003894178615 : True := trivial
theorem top.tw7913636548009798097 : True := trivial
theorem top.tw12427389293880184781 : True := trivial
theorem top.tw8814567910327776732 : True := trivial
theorem top.tw14608685727046917156 : True := trivial
theorem top.tw12443789822770055382 : True := trivial
theorem top.tw12734148187753135964 : True := trivial
theorem top.tw17135812771915316397 : True := trivial
theorem top.tw8243169916365450940 : True := trivial
theorem top.tw11832031186972411990 : True := trivial
theorem top.tw15144657745836032454 : True := trivial
theorem top.tw10353446712322349686 : True := trivial
theorem top.tw15169761463676818070 : True := trivial
theorem top.tw8541664164027344294 : True := trivial
theorem top.tw3315250197877816394 : True := trivial
theorem top.tw13852830345959847167 : True := trivial
theorem top.tw4159251561096739476 : True := trivial
theorem top.tw5398424786039705171 : True := trivial
theorem top.tw11994683656316670133 : True := trivial
theorem top.tw6900192571869012848 : True := trivial
theorem top.tw775762912060472103 : True := trivial
theorem top.tw7702549930194098719 : True := trivial
theorem top.tw17953984050398360512 : True := trivial
theorem top.tw15766219058475960075 : True := trivial
theorem top.tw9227541089923242437 : True := trivial
theorem top.tw2924597203103170677 : True := trivial
theorem top.tw15722756333993289495 : True := trivial
theorem top.tw16793365374058956912 : True := trivial
theorem top.tw4299629679881509495 : True := trivial
theorem top.tw11582926029173025856 : True := trivial
theorem top.tw1592229195962567352 : True := trivial
theorem top.tw11334203419191126389 : True := trivial
theorem top.tw3423177367516475676 : True := trivial
theorem top.tw3976154599441133093 : True := trivial
theorem top.tw8566151710794823266 : True := trivial
theorem top.tw3561193834555079511 : True := trivial
theorem top.tw15542334942015070624 : True := trivial
theorem top.tw4758991174889311326 : True := trivial
theorem top.tw5604026686304666287 : True := trivial
theorem top.tw11845233108574324481 : True := trivial
theorem top.tw16526113553464788058 : True := trivial
theorem top.tw492879137614061493 : True := trivial
theorem top.tw1754339480302792767 : True := trivial
theorem top.tw9063741608606530840 : True := trivial
theorem top.tw15349318334595610263 : True := trivial
theorem top.tw4784893810139332661 : True := trivial
theorem top.tw4671429814451907529 : True := trivial
theorem top.tw12318557346453588183 : True := trivial
theorem top.tw18134043772397237400 : True := trivial
theorem top.tw6503730183909636620 : True := trivial
theorem top.tw11173010173815179391 : True := trivial
theorem top.tw4213018616267185653 : True := trivial
theorem top.tw1732150942055357024 : True := trivial
theorem top.tw15918733279669447828 : True := trivial
theorem top.tw4154345032738424160 : True := trivial
theorem top.tw2047500489365003465 : True := trivial
theorem top.tw6624316729101989866 : True := trivial
theorem top.tw6468107147075657394 : True := trivial
theorem top.tw908825868028484722 : True := trivial
theorem top.tw6196800358849779857 : True := trivial
theorem top.tw16663787254893796032 : True := trivial
theorem top.tw11828478481110319688 : True := trivial
theorem top.tw12564220515667953714 : True := trivial
theorem top.tw16004416686337608138 : True := trivial
theorem top.tw8507776931139520737 : True := trivial
theorem top.tw14707807475535933493 : True := trivial
theorem top.tw7799483888651840948 : True := trivial
theorem top.tw15964425811070034938 : True := trivial
theorem top.tw16174758807025615021 : True := trivial
theorem top.tw17921175469725437805 : True := trivial
theorem top.tw4555866861457887817 : True := trivial
theorem top.tw11116745826364501430 : True := trivial
theorem top.tw2565563351968343141 : True := trivial
theorem top.tw11430207588045935325 : True := trivial
theorem top.tw10328360990557673835 : True := trivial
theorem top.tw2700199365505918788 : True := trivial
theorem top.tw9908339238214195531 : True := trivial
theorem top.tw11765434788231831023 : True := trivial
theorem top.tw9622763587122877835 : True := trivial
theorem top.tw3095723055068941187 : True := trivial
theorem top.tw2580922434103091657 : True := trivial
theorem top.tw297971269722091814 : True := trivial
theorem top.tw12033610942823940228 : True := trivial
theorem top.tw3140898538269762758 : True := trivial
theorem top.tw6127594578889010139 : True := trivial
theorem top.tw14796646475526232899 : True := trivial
theorem top.tw8800459187187324500 : True := trivial
theorem top.tw10864713392326063847 : True := trivial
theorem top.tw13762209637798829341 : True := trivial
theorem top.tw1814787853859245837 : True := trivial
theorem top.tw11961350612320602522 : True := trivial
theorem top.tw15254643099363442306 : True := trivial
theorem top.tw10505224238033894595 : True := trivial
theorem top.tw15125931889511115149 : True := trivial
theorem top.tw13915387964903991752 : True := trivial
theorem top.tw1117029662656177491 : True := trivial
theorem top.tw11159431927160009238 : True := trivial
theorem top.tw10543691242780618784 : True := trivial
theorem top.tw6509661102738689577 : True := trivial
theorem top.tw8810280945414196856 : True := trivial
theorem top.tw4383139521930768336 : True := trivial
theorem top.tw1321871150748368714 : True := trivial
theorem top.tw17566744294597663674 : True := trivial
theorem top.tw10252623693936335467 : True := trivial
theorem top.tw12958502747184954254 : True := trivial
theorem top.tw15451780782824253742 : True := trivial
theorem top.tw17594962761535629368 : True := trivial
theorem top.tw14987219478266130788 : True := trivial
theorem top.tw11334350811105764591 : True := trivial
theorem top.tw10448899703829047738 : True := trivial
theorem top.tw14632489290957082403 : True := trivial
theorem top.tw15503665604740900718 : True := trivial
theorem top.tw16044733080236030384 : True := trivial
theorem top.tw1551491737661789689 : True := trivial
theorem top.tw1522322319653140107 : True := trivial
theorem top.tw15491019914900986176 : True := trivial
theorem top.tw14142502885225118848 : True := trivial
theorem top.tw575894324575664597 : True := trivial
theorem top.tw2248615004971204189 : True := trivial
theorem top.tw4547113066930546574 : True := trivial
theorem top.tw16007503158450755388 : True := trivial
theorem top.tw15638586536077026902 : True := trivial
theorem top.tw18048309997417785660 : True := trivial
theorem top.tw9179593723451354161 : True := trivial
theorem top.tw13326734554550294991 : True := trivial
theorem top.tw10317287140990440334 : True := trivial
theorem top.tw2685745773621513544 : True := trivial
theorem top.tw14466935161476858967 : True := trivial
theorem top.tw17323899518341599180 : True := trivial
theorem top.tw13090165191389475591 : True := trivial
theorem top.tw17033825039287860005 : True := trivial
theorem top.tw16580785732701462914 : True := trivial
theorem top.tw12031303853943761323 : True := trivial
theorem top.tw401921906979044612 : True := trivial
theorem top.tw2731995056826638727 : True := trivial
theorem top.tw12256363837256957063 : True := trivial
theorem top.tw5764397981948056254 : True := trivial
theorem top.tw25490976956596596 : True := trivial
theorem top.tw2145171640123136144 : True := trivial
theorem top.tw15687709949711836451 : True := trivial
theorem top.tw5648408011753718230 : True := trivial
theorem top.tw6812286434817487243 : True := trivial
theorem top.tw11840804652615492782 : True := trivial
theorem top.tw12725264436868645240 : True := trivial
theorem top.tw1624882745565484001 : True := trivial
theorem top.tw3195968871104189447 : True := trivial
theorem top.tw17336350906216195740 : True := trivial
theorem top.tw2742194189697913485 : True := trivial
theorem top.tw11203750815551599093 : True := trivial
theorem top.tw12777601194060584777 : True := trivial
theorem top.tw2732273902793177162 : True := trivial
theorem top.tw4915924211722396518 : True := trivial
theorem top.tw17886615442053742456 : True := trivial
theorem top.tw16204670001084760307 : True := trivial
theorem top.tw11542710104232473196 : True := trivial
theorem top.tw6292954644110606532 : True := trivial
theorem top.tw4501217679856968648 : True := trivial
theorem top.tw16809779246217341487 : True := trivial
theorem top.tw12540527436937284434 : True := trivial
theorem top.tw462939625794472801 : True := trivial
theorem top.tw17103177528636943170 : True := trivial
theorem top.tw1585457916280141200 : True := trivial
theorem top.tw2283705100260146909 : True := trivial
theorem top.tw16509065781470453940 : True := trivial
theorem top.tw3603051052118289896 : True := trivial
theorem top.tw8560541052185303311 : True := trivial
theorem top.tw16525863338940772298 : True := trivial
theorem top.tw5507162329139097715 : True := trivial
theorem top.tw11922380849998532372 : True := trivial
theorem top.tw314455870634268127 : True := trivial
theorem top.tw9259421805112917234 : True := trivial
theorem top.tw2529601377429677153 : True := trivial
theorem top.tw6746510453823603384 : True := trivial
theorem top.tw10194810499950245846 : True := trivial
theorem top.tw14671331368771545958 : True := trivial
theorem top.tw10010203797729834575 : True := trivial
theorem top.tw3730354652608582461 : True := trivial
theorem top.tw10187264123177260123 : True := trivial
theorem top.tw16352630495959832749 : True := trivial
theorem top.tw4250950275838387964 : True := trivial
theorem top.tw4951766788466123468 : True := trivial
theorem top.tw9111341701214203307 : True := trivial
theorem top.tw8212240652046128837 : True := trivial
theorem top.tw14697636140705633519 : True := trivial
theorem top.tw6346791436771467603 : True := trivial
theorem top.tw14789260269991461300 : True := trivial
theorem top.tw16533540343700365917 : True := trivial
theorem top.tw13001836021917841797 : True := trivial
theorem top.tw10008474027749305400 : True := trivial
theorem top.tw9833397302626899308 : True := trivial
theorem top.tw18330144715369815205 : True := trivial
theorem top.tw15755962551988530747 : True := trivial
theorem top.tw17157282023139344501 : True := trivial
theorem top.tw6908635100366463001 : True := trivial
theorem top.tw439095664309466517 : True := trivial
theorem top.tw2782073688633401757 : True := trivial
theorem top.tw5922324665105752571 : True := trivial
theorem top.tw390997316461189296 : True := trivial
theorem top.tw14510474431719978317 : True := trivial
theorem top.tw18229784292405043182 : True := trivial
theorem top.tw17428532607074087071 : True := trivial
theorem top.tw7313339093194340965 : True := trivial
theorem top.tw13187519465064655849 : True := trivial
theorem top.tw1950521091445644615 : True := trivial
theorem top.tw5790966258338625528 : True := trivial
theorem top.tw13889484949932952446 : True := trivial
theorem top.tw17489137672866753323 : True := trivial
theorem top.tw9685713192446186341 : True := trivial
theorem top.tw9195894827357321740 : True := trivial
theorem top.tw18371284783138465269 : True := trivial
theorem top.tw342308947776675178 : True := trivial
theorem top.tw7845129631348957993 : True := trivial
theorem top.tw8694864300669457046 : True := trivial
theorem top.tw6919701780365589675 : True := trivial
theorem top.tw6383614241601562808 : True := trivial
theorem top.tw9328819404386307858 : True := trivial
theorem top.tw16674975167109581930 : True := trivial
theorem top.tw3195522803047326042 : True := trivial
theorem top.tw9382581127745807760 : True := trivial
theorem top.tw12342655685612074800 : True := trivial
theorem top.tw11443710868159068359 : True := trivial
theorem top.tw16357309143852133390 : True := trivial
theorem top.tw10774637447528242797 : True := trivial
theorem top.tw3581848524822189991 : True := trivial
theorem top.tw15360274220829721888 : True := trivial
theorem top.tw7830913209206220567 : True := trivial
theorem top.tw12603656398198563500 : True := trivial
theorem top.tw3657543652526465285 : True := trivial
theorem top.tw2867133514656366558 : True := trivial
theorem top.tw8372035913837991250 : True := trivial
theorem top.tw6189502492464219833 : True := trivial
theorem top.tw15240379268576122478 : True := trivial
theorem top.tw4131498621145694574 : True := trivial
theorem top.tw995497684801637723 : True := trivial
theorem top.tw9800703332001039478 : True := trivial
theorem top.tw2287362676942042354 : True := trivial
theorem top.tw2907113945770861938 : True := trivial
theorem top.tw3846862658102513837 : True := trivial
theorem top.tw9851269098105209369 : True := trivial
theorem top.tw6883741973766446791 : True := trivial
theorem top.tw3143785405151724282 : True := trivial
theorem top.tw13987285891283452908 : True := trivial
theorem top.tw99440450732166138 : True := trivial
theorem top.tw9913501989792142831 : True := trivial
theorem top.tw6594526768476950845 : True := trivial
theorem top.tw5535988348211436712 : True := trivial
theorem top.tw18362437273917381549 : True := trivial
theorem top.tw679676368844127653 : True := trivial
theorem top.tw7475746777092488413 : True := trivial
theorem top.tw46980244435833615 : True := trivial
theorem top.tw8311017846404947139 : True := trivial
theorem top.tw6438537300738474071 : True := trivial
theorem top.tw9953747333497923681 : True := trivial
theorem top.tw1108800333578037850 : True := trivial
theorem top.tw10006222313960134694 : True := trivial
theorem top.tw16414630628198896168 : True := trivial
theorem top.tw1043701613660472097 : True := trivial
theorem top.tw8150499350492408157 : True := trivial
theorem top.tw1492452104121835379 : True := trivial
theorem top.tw17085176360113175178 : True := trivial
theorem top.tw8985709366574770022 : True := trivial
theorem top.tw10801874191123338550 : True := trivial
theorem top.tw956089473029861405 : True := trivial
theorem top.tw16166457384891526456 : True := trivial
theorem top.tw10512489437642701289 : True := trivial
theorem top.tw283044589724301 : True := trivial
theorem top.tw602653604445443664 : True := trivial
theorem top.tw18121752080927795069 : True := trivial
theorem top.tw2878843996050045342 : True := trivial
theorem top.tw9723989250521069032 : True := trivial
theorem top.tw2752453847809088016 : True := trivial
theorem top.tw11503242561204267055 : True := trivial
theorem top.tw8746584487950033348 : True := trivial
theorem top.tw1245559373397905713 : True := trivial
theorem top.tw17783859843131274014 : True := trivial
theorem top.tw16058212318047004132 : True := trivial
theorem top.tw13264354339760550358 : True := trivial
theorem top.tw4713442408853163898 : True := trivial
theorem top.tw18008055252877512497 : True := trivial
theorem top.tw14705559076539443318 : True := trivial
theorem top.tw4566856676736034171 : True := trivial
theorem top.tw6370870915552960936 : True := trivial
theorem top.tw1147548669246485465 : True := trivial
theorem top.tw4345882819342510227 : True := trivial
theorem top.tw8143265674769528471 : True := trivial
theorem top.tw350670483859837877 : True := trivial
theorem top.tw2422214840401454511 : True := trivial
theorem top.tw3389129807090800087 : True := trivial
theorem top.tw16120041803238788101 : True := trivial
theorem top.tw6942226510957090829 : True := trivial
theorem top.tw3820434133910038737 : True := trivial
theorem top.tw12507017104952529904 : True := trivial
theorem top.tw16739174306508632950 : True := trivial
theorem top.tw2365566498512967660 : True := trivial
theorem top.tw18245740138792012028 : True := trivial
theorem top.tw501154541418245514 : True := trivial
theorem top.tw14235281626263879747 : True := trivial
theorem top.tw17861464445857800736 : True := trivial
theorem top.tw6042063481754889096 : True := trivial
theorem top.tw2218668502564051296 : True := trivial
theorem top.tw4547018644641229820 : True := trivial
theorem top.tw4166218997396506358 : True := trivial
theorem top.tw12718909917080609646 : True := trivial
theorem top.tw4231656071295301730 : True := trivial
theorem top.tw8523463495250067690 : True := trivial
theorem top.tw3261557481417251176 : True := trivial
theorem top.tw17641250103381484751 : True := trivial
theorem top.tw12960919825447276754 : True := trivial
theorem top.tw4885547446624616799 : True := trivial
theorem top.tw11334415319851112604 : True := trivial
theorem top.tw1400011881503588481 : True := trivial
theorem top.tw11735923915801401282 : True := trivial
theorem top.tw17240160907184977327 : True := trivial
theorem top.tw3120133295221510679 : True := trivial
theorem top.tw1192657577511650299 : True := trivial
theorem top.tw10643057118474118344 : True := trivial
theorem top.tw14996135249977892343 : True := trivial
theorem top.tw15873491276070852124 : True := trivial
theorem top.tw357486453476387696 : True := trivial

set_option Elab.async true
/-! law -/
inductive Seen : Prop where
  | mk
theorem top : PySem.Challenge.rw_mj0243_01.Holds := by
  w_on
  o_law
  o_head (PySem.W.kHook Mine.hd.heap_1 [2, 3, 33, 35, 36, 38, 39, 40, 41, 43, 44, 46, 47, 48, 50, 51, 53, 54, 55, 57, 58, 60, 61, 62, 69, 70, 71, 72, 82, 84, 85, 87, 88, 89, 90, 91, 92, 93, 94, 97, 104, 105, 106, 109, 116, 117, 118, 121, 128, 129, 131, 132, 134, 135, 136, 138, 139, 141, 142, 143, 145, 146, 148, 149, 150, 152, 153, 155, 156, 157, 158, 160, 161, 163, 164, 165, 167, 168, 170, 171, 172, 174, 175, 177, 178, 179, 181, 182, 184, 185, 186, 188, 189, 191, 192, 193, 195, 196, 198, 199, 200, 202, 203, 205, 206, 207, 209, 210, 212, 213, 214, 216, 217, 219, 220, 221, 223, 224, 226, 227, 228, 230, 231, 233, 234, 235, 237, 238, 240, 241, 242, 244, 245, 247, 248, 249, 250, 252, 253, 255, 256, 257, 258, 260, 261, 263, 264, 265, 266, 268, 269, 271, 272, 273, 274, 276, 277, 279, 280, 281, 283, 284, 286, 287, 288, 290, 291, 293, 294, 295, 296, 298, 299, 301, 302, 303, 304, 306, 307, 309, 310, 311, 313, 314, 316, 317, 318, 320, 321, 323, 324, 325, 327, 328, 330, 331, 332, 334, 335, 337, 338, 339, 341, 342, 344, 345, 346, 347, 348, 351, 358, 359, 361, 362, 364, 365, 366, 368, 369, 371, 372, 373, 375, 376, 378, 379, 380, 382, 383, 385, 386, 387, 389, 390, 392, 393, 394, 396, 397, 399, 400, 401, 402, 404, 405, 407, 408, 409, 410, 412, 413, 415, 416, 417, 418, 420, 421, 423, 424, 425, 426, 428, 429, 431, 432, 433, 434, 436, 437, 439, 440, 441, 443, 444, 446, 447, 448, 450, 451, 453, 454, 455, 457, 458, 460, 461, 462, 464, 465, 467, 468, 469, 471, 472, 474, 475, 476, 478, 479, 481, 482, 483, 485, 486, 488, 489, 490, 492, 493, 495, 496, 497, 499, 500, 502, 503, 504, 506, 507, 509, 510, 511, 513, 514, 516, 517, 518, 519, 521, 522, 524, 525, 526, 527, 529, 530, 532, 533, 534, 535, 537, 538, 540, 541, 542, 543, 545, 546, 548, 549, 550, 551, 553, 554, 556, 557, 558, 560, 561, 563, 564, 565, 567, 568, 570, 571, 572, 574, 575, 577, 578, 579, 581, 582, 584, 585, 586, 588, 589, 591, 592, 593, 594, 595, 598, 600, 601, 603, 604, 605, 607, 608, 610, 611, 612, 614, 615, 617, 618, 619, 621, 622, 624, 625, 626, 628, 629, 631, 632, 633, 635, 636, 638, 639, 647, 648, 650, 651, 653, 654, 655, 657, 658, 660, 661, 662, 663, 665, 666, 668, 669, 670, 671, 673, 674, 676, 677, 678, 680, 681, 683, 684, 685, 687, 688, 690, 691, 692, 694, 695, 697, 698, 699, 701, 702, 704, 705, 706, 707, 709, 710, 712, 713, 714, 716, 717, 719, 720, 721, 723, 724, 726, 727, 728, 729, 730, 731, 732, 735, 736, 738, 739, 741, 742, 743, 745, 746, 748, 749, 750, 753, 754, 755, 757, 758, 760, 761, 762, 764, 765, 767, 768, 769, 772, 773] (fun _ => by kernel_rfl))
  case hw => w_witness2
  w_top off
  k_with "call ref" => (k_here; refine stop_intro ?_)
  k_with "eval IfExp" => ((fail_if_success (rename Seen => x9)); k_here; refine stop_intro ?_)
  k_with "subscriptTail" => (k_here; (with_reducible show wpAny _ _ (subscriptTail _ _ (Value.ref _) (Value.int 0 _)) _ _ _); k_dflt (refine' first_V ?k1 ?k2 ?_ ?k5; (case k1 => k_asm); (case k2 => k_mem); (case k5 => with_unfolding_all rfl); k_whole))
  k_with "subscriptTail" => (k_here; (with_reducible show wpAny _ _ (subscriptTail _ _ (Value.ref _) (Value.int 0 _)) _ _ _); k_dflt (refine' tup0_V ?k1 ?k2 ?_ ?k5; (case k1 => k_asm); (case k2 => k_mem); (case k5 => with_unfolding_all rfl); k_whole))
  k_with "eval ListComp" => (k_here; k_dflt (refine LCg.ListComp_U (F₀ := by k_asm) (by with_unfolding_all rfl) (by decide) (by rfl) (by decide) (by rfl) ?_))
  k_with "call builtin:sum" => (k_here; k_dflt (refine' sum_V ?k0 ?k1 ?k2 ?k3 ?k4 ?_; (case k0 => with_unfolding_all rfl); (case k1 => k_asm); (case k2 => k_asm); (case k3 => k_mem); (case k4 => assumption); k_whole); intro h' tk' t' F' N'; (try k_sweep))
  k_with "compareOp NotEq ref ref" => (k_here; k_dflt (refine' texts_ne ?k1 ?k2 ?k3 ?k4 ?k5 ?k6 ?_; (case k1 => k_asm); (case k2 => k_mem); (case k3 => k_mem); (case k4 => assumption); (case k5 => assumption); (case k6 => ktr_units); k_whole))
  k_with "compareOp Eq ref ref" => (k_here; k_dflt (refine' texts_eq ?k1 ?k2 ?k3 ?k4 ?k5 ?k6 ?_; (case k1 => k_asm); (case k2 => k_mem); (case k3 => k_mem); (case k4 => assumption); (case k5 => assumption); (case k6 => ktr_units); k_whole))
  k_with "binaryOp Add ref ref" => (k_here; k_dflt (refine' texts_more ?k1 ?k2 ?k3 ?k4 ?k5 ?k6 ?_; (case k1 => k_asm); (case k2 => k_asm); (case k3 => k_mem); (case k4 => k_mem); (case k5 => assumption); (case k6 => assumption); k_whole); intro D' vs' h' F' N' hvs')
  w_strict (k_go0; (all_goals try k_fold); k_steps
            (refine stop_elim ?_)
            rename IntsAre _ _ => hI9
            k_dflt (refine' things_call hI9 ?kn ?k1 ?k2 ?k3 ?k4 ?k5 ?kK ?kl ?kd ?ku ?_; (case k1 => k_asm); (case k2 => k_asm); (case k3 => k_asm); (case k4 => k_asm); (case k5 => k_asm); (case kK => exact rfl); (case kd => ktr_room); (case ku => ktr_units); (case kl => assumption); (case kn => omega))
            intro T1 us1 c1 ds1 led1 h1 tk1 F1 N1 hm1 hlo1 hall1 hP1 hz9
            k_steps
            (refine stop_elim ?_)
            obtain ⟨v0, us0, d0, ds0, rfl, rfl, hv0⟩ := hall1.head hP1.2.2.2
            rename Fr _ _ _ _ => F9
            rename News _ _ _ _ => N9
            refine top_is F9 N9 hv0 (fun Q' hq => ?_) (fun v d h2 tk2 F2 N2 hv hgo hdp hrl => ?_)
            focus
              have seen := Seen.mk
              k_steps
              case _ => exact hq _ _ _ _ (by k_asm) (by k_asm) hv0 (top_one hP1).1 (top_one hP1).2.1 (top_one hP1).2.2
              case _ => exact hq _ _ _ _ (by k_asm) (by k_asm) (.list hm1 hlo1 hall1) (top_all hP1).1 (top_all hP1).2.1 (top_all hP1).2.2
            clear F9 N9
            have hshl := shown_len hgo
            have hraw : (rawOf (pcs d)).length ≤ 362 := hrl
            k_steps
            (refine stop_elim ?_)
            k_dflt (refine' pcs_call hv hgo hdp ?kB ?k1 ?k2 ?k3 ?k4 ?k5 ?kK ?kd ?ku ?_; (case kB => exact hraw); (case k1 => k_asm); (case k2 => k_asm); (case k3 => k_asm); (case k4 => k_asm); (case k5 => k_asm); (case kK => exact rfl); (case kd => ktr_room); (case ku => ktr_units))
            intro P2 ps2 c2 nw2 h3 tk3 F3 N3 hs2 hm2 hp2 hlen2
            k_steps
            rename Fr _ _ _ _ => F9
            rename News _ _ _ _ => N9
            refine LCg.CompSrc.ledger rfl F9 N9 hm2 (by rw [sizeLine_eq, List.size_toArray]; omega) (fun g => ?_)
            refine comp_pieces hm2 hp2 ?el ?fin _ 0 [] (by simp) .nil
            case el =>
              intro T n t1 t2 t3 p I oI C oC D ys m₂ h tk Q' E' hT hns hmx F N off ret
              k_steps
              exact ret _ _ _ (by k_asm) (by k_asm)
            intro ys hys D h tk F N off
            clear F9 N9
            k_steps
            (refine stop_elim ?_)
            k_dflt (refine' repr_call (hv.sub ?ks) hgo ?kp ?kz ?k1 ?k2 ?k3 ?k4 ?k5 ?kK ?kd ?ku ?_; (case k1 => k_asm); (case k2 => k_asm); (case k3 => k_asm); (case k4 => k_asm); (case k5 => k_asm); (case kK => exact rfl); (case kd => ktr_room); (case ku => ktr_units); (case kp => omega); (case kz => omega); (case ks => (intro p9 hp9; k_mem)))
            intro t4 h4 tk4 F4 N4
            k_steps
            obtain ⟨ws, hws⟩ := law_some (d := d) (Nat.le_refl _)
            have hsgl : (sg d.shown).length = (rawOf (pcs d)).length := by rw [← raw_shown d hgo]
            have hwh : lexF 400 (sg d.shown) = .ok ws := by rw [law_whole hgo (k := 400) (by omega) (Nat.le_of_eq hsgl), hws]; show LRes.ok (ws ++ []) = _; rw [List.append_nil]
            have hcnt := Nat.le_trans (count_le (pcs_good d hgo)) hraw
            have hpsz := pcs_sizes hgo hraw
            (refine stop_elim ?_)
            k_dflt (refine' split_call (ws := ws) ?kx hwh ?k1 ?k2 ?k3 ?k4 ?k5 ?kK ?kd ?ku ?_; (case k1 => k_asm); (case k2 => k_asm); (case k3 => k_asm); (case k4 => k_asm); (case k5 => k_asm); (case kK => exact rfl); (case kd => ktr_room); (case ku => ktr_units); (case kx => omega))
            intro S5 acc5 c5 nw5 h5 tk5 F5 N5 hs5 hS5 ht5
            k_steps
            (refine stop_elim ?_)
            k_dflt (refine' words_some (ps := pcs d) (ws := ws) (i := ((rawOf (pcs d)).length : Int)) rfl ?kP (hp2.mono ?ks) ?kr ?kn hpsz hws ?k1 ?k2 ?k3 ?k4 ?k5 ?kK ?kd ?ku ?_; (case k1 => k_asm); (case k2 => k_asm); (case k3 => k_asm); (case k4 => k_asm); (case k5 => k_asm); (case kK => exact rfl); (case kd => ktr_room); (case ku => ktr_units); (case kP => k_mem); (case ks => (intro p9 hp9; k_mem)); (case kr => omega); (case kn => omega))
            intro W6 us6 c6 nw6 h6 tk6 F6 N6 hs6 hm6 ht6
            k_steps
            (refine stop_elim ?_)
            have seen := Seen.mk
            rcases Nat.lt_or_ge (rawOf (pcs d)).length 80 with h80 | h80
            focus
              have hw7 : wd [] none (pcs d) (min (rawOf (pcs d)).length 80) = some ws := by rw [Nat.min_eq_left (Nat.le_of_lt h80), hws]
              k_dflt (refine' words_some (ps := pcs d) (room := min (rawOf (pcs d)).length 80) (ws := ws) (min80 _) ?kP (hp2.mono ?ks) ?kr ?kn hpsz ?kw ?k1 ?k2 ?k3 ?k4 ?k5 ?kK ?kd ?ku ?_; (case k1 => k_asm); (case k2 => k_asm); (case k3 => k_asm); (case k4 => k_asm); (case k5 => k_asm); (case kK => exact rfl); (case kd => ktr_room); (case ku => ktr_units); (case kP => k_mem); (case ks => (intro p9 hp9; k_mem)); (case kr => omega); (case kn => omega); (case kw => assumption))
              intro W7 us7 c7 nw7 h7 tk7 F7 N7 hs7 hm7 ht7
              k_steps
              (refine stop_elim ?_)
              k_dflt (refine' short_call (y := d.shown) (hv.sub ?ks) hgo ?kp ?kz ?ky ?k1 ?k2 ?k3 ?k4 ?k5 ?kK ?kd ?ku ?_; (case k1 => k_asm); (case k2 => k_asm); (case k3 => k_asm); (case k4 => k_asm); (case k5 => k_asm); (case kK => exact rfl); (case kd => ktr_room); (case ku => ktr_units); (case kp => omega); (case kz => omega); (case ky => first | exact if_pos (by omega) | exact if_neg (by omega)); (case ks => (intro p9 hp9; k_mem)))
              intro t8 h8 tk8 F8 N8
              k_steps
              (refine stop_elim ?_)
              k_dflt (refine' split2_call (ws := ws) ?kx hwh ?k1 ?k2 ?k3 ?k4 ?k5 ?kK ?kd ?ku ?_; (case k1 => k_asm); (case k2 => k_asm); (case k3 => k_asm); (case k4 => k_asm); (case k5 => k_asm); (case kK => exact rfl); (case kd => ktr_room); (case ku => ktr_units); (case kx => first | omega | exact hxl))
              intro S9 acc9 c9 nw9 h9 tk9 F9 N9 hs9 hS9 ht9
              k_steps
            have hxl : (tx ((sg d.shown).take 80 ++ TR)).length ≤ 1000 := by
              show ((sg d.shown).take 80 ++ TR).toArray.size ≤ 1000
              rw [List.size_toArray, List.length_append, List.length_take]; simp; omega
            have hsh : lexF 400 ((sg d.shown).take 80 ++ TR) = toL [TRt] (wd [] none (pcs d) 80) := law_short hgo (by decide) (by omega)
            cases e7 : wd [] none (pcs d) 80 with
            | none =>
              rw [e7] at hsh
              have hw7 : wd [] none (pcs d) (min (rawOf (pcs d)).length 80) = none := by rw [Nat.min_eq_right h80, e7]
              k_dflt (refine' words_none (ps := pcs d) (room := min (rawOf (pcs d)).length 80) (min80 _) ?kP (hp2.mono ?ks) ?kr ?kn hpsz ?kw ?k1 ?k2 ?k3 ?k4 ?k5 ?kK ?kd ?ku ?_; (case k1 => k_asm); (case k2 => k_asm); (case k3 => k_asm); (case k4 => k_asm); (case k5 => k_asm); (case kK => exact rfl); (case kd => ktr_room); (case ku => ktr_units); (case kP => k_mem); (case ks => (intro p9 hp9; k_mem)); (case kr => omega); (case kn => omega); (case kw => assumption))
              intro nw7 h7 tk7 F7 N7 hs7
              k_steps
              (refine stop_elim ?_)
              k_dflt (refine' short_call (y := tx ((sg d.shown).take 80 ++ TR)) (hv.sub ?ks) hgo ?kp ?kz ?ky ?k1 ?k2 ?k3 ?k4 ?k5 ?kK ?kd ?ku ?_; (case k1 => k_asm); (case k2 => k_asm); (case k3 => k_asm); (case k4 => k_asm); (case k5 => k_asm); (case kK => exact rfl); (case kd => ktr_room); (case ku => ktr_units); (case kp => omega); (case kz => omega); (case ky => first | exact if_pos (by omega) | exact if_neg (by omega)); (case ks => (intro p9 hp9; k_mem)))
              intro t8 h8 tk8 F8 N8
              k_steps
              (refine stop_elim ?_)
              k_dflt (refine' split2_raise ?kx hsh ?k1 ?k2 ?k3 ?k4 ?k5 ?kK ?kd ?ku ?_; (case k1 => k_asm); (case k2 => k_asm); (case k3 => k_asm); (case k4 => k_asm); (case k5 => k_asm); (case kK => exact rfl); (case kd => ktr_room); (case ku => ktr_units); (case kx => first | omega | exact hxl))
              intro e9 t9 tt9 g9 h9 tk9 F9 U9 R9
              k_dflt k_caughtB
              intro h10 news10 tk10 F10 N10 G10 N11
              k_steps
            | some ws2 =>
              rw [e7] at hsh
              have hsh : lexF 400 ((sg d.shown).take 80 ++ TR) = .ok (ws2 ++ [TRt]) := hsh
              have hw7 : wd [] none (pcs d) (min (rawOf (pcs d)).length 80) = some ws2 := by rw [Nat.min_eq_right h80, e7]
              have hwl := wd_len _ _ _ _ _ e7
              have hwl : ws2.length ≤ 1000 := by simp only [List.length_nil] at hwl; omega
              k_dflt (refine' words_some (ps := pcs d) (room := min (rawOf (pcs d)).length 80) (ws := ws2) (min80 _) ?kP (hp2.mono ?ks) ?kr ?kn hpsz ?kw ?k1 ?k2 ?k3 ?k4 ?k5 ?kK ?kd ?ku ?_; (case k1 => k_asm); (case k2 => k_asm); (case k3 => k_asm); (case k4 => k_asm); (case k5 => k_asm); (case kK => exact rfl); (case kd => ktr_room); (case ku => ktr_units); (case kP => k_mem); (case ks => (intro p9 hp9; k_mem)); (case kr => omega); (case kn => omega); (case kw => assumption))
              intro W7 us7 c7 nw7 h7 tk7 F7 N7 hs7 hm7 ht7
              k_steps
              (refine stop_elim ?_)
              k_dflt (refine' short_call (y := tx ((sg d.shown).take 80 ++ TR)) (hv.sub ?ks) hgo ?kp ?kz ?ky ?k1 ?k2 ?k3 ?k4 ?k5 ?kK ?kd ?ku ?_; (case k1 => k_asm); (case k2 => k_asm); (case k3 => k_asm); (case k4 => k_asm); (case k5 => k_asm); (case kK => exact rfl); (case kd => ktr_room); (case ku => ktr_units); (case kp => omega); (case kz => omega); (case ky => first | exact if_pos (by omega) | exact if_neg (by omega)); (case ks => (intro p9 hp9; k_mem)))
              intro t8 h8 tk8 F8 N8
              k_steps
              (refine stop_elim ?_)
              k_dflt (refine' split2_call (ws := ws2 ++ [TRt]) ?kx hsh ?k1 ?k2 ?k3 ?k4 ?k5 ?kK ?kd ?ku ?_; (case k1 => k_asm); (case k2 => k_asm); (case k3 => k_asm); (case k4 => k_asm); (case k5 => k_asm); (case kK => exact rfl); (case kd => ktr_room); (case ku => ktr_units); (case kx => first | omega | exact hxl))
              intro S9 acc9 c9 nw9 h9 tk9 F9 N9 hs9 hS9 ht9
              k_steps)
end Mine
set_option Elab.async false
theorem PySem.Challenge.cw_mj0243_01_holds : PySem.Challenge.rw_mj0243_01.Holds :=
  Mine.top
