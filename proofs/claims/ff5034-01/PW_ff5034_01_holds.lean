import PyProof.Rows.All
import Wide.All
import OpenK.AllK
import Wide.FinOn
import PySem.Challenge.RW_ff5034_01
open PySem PySem.W PyProof.Rows
set_option Elab.async false
set_option maxRecDepth 100000
set_option maxHeartbeats 8000000
set_option rowWalk.seconds 0
-- part HD
namespace Mine
open_top hd for PySem.Challenge.rw_ff5034_01
end Mine
open PySem.Spec PySem.Calls
namespace Mine
theorem calm : True := by
  w_top off
  trivial
end Mine
-- part BA
namespace Mine

abbrev P0 : Program := PySem.Challenge.rw_ff5034_01.prog
abbrev Led := List (Addr × Obj)

/-- what a call of a def of the text does: from any frame that stands over the written part -/
def Con (k : Nat) (w : World) (f : Addr) (args : List Value) (news : Led) (R : Value → Led → Prop) : Prop :=
  ∀ (p : Program) (loose : List Str) (mean : ExcName → Option Value) (mg mb : Str → Option Value) (dp un : Nat) (gd : Option (List Code)) (cn : Str) (cs : Scope) (a : Addr) (ccd : Value) (cl : List (Str × Addr)) (outer : List Env) (A₀ : Around) (base h₀ : Heap) (L : Addr) (m : Str → Option Value) (s : Shared) (Q E : Value → Shared → Prop),
    Below A₀ base outer h₀ → Fr h₀ L s.heap m → (hd.heap_39 w.params).In h₀ → News h₀ L s.heap news → Top p loose mean mg mb h₀ → cs.kind = .function →
    dp + k < recursionLimit → un + 10 * k < cLine →
    (∀ v news' h' tk', R v news' → Fr h₀ L h' m → News h₀ L h' news' → Q v { s with heap := h', toks := tk' }) →
    wpAny (model P0 w) (ktrTop dp un gd cn cs L a ccd cl outer) (call (.ref f) args) Q E s

section
variable {k : Nat} {w : World} {f : Addr} {args : List Value} {news news' : Led} {R R' : Value → Led → Prop}
theorem Con.use (C : Con k w f args news R) {p : Program} {loose : List Str} {mean : ExcName → Option Value} {mg mb : Str → Option Value} {dp un : Nat} {gd : Option (List Code)} {cn : Str} {cs : Scope} {a : Addr} {ccd : Value} {cl : List (Str × Addr)} {outer : List Env} {A₀ : Around} {base h₀ : Heap} {L : Addr} {m : Str → Option Value} {s : Shared} {Q E : Value → Shared → Prop}
    (B : Below A₀ base outer h₀) (F : Fr h₀ L s.heap m) (X : (hd.heap_39 w.params).In h₀) (N : News h₀ L s.heap news) (T : Top p loose mean mg mb h₀) (hk : cs.kind = .function)
    (hd : dp + k < recursionLimit) (hu : un + 10 * k < cLine)
    (ret : ∀ v news' h' tk', R v news' → Fr h₀ L h' m → News h₀ L h' news' → Q v { s with heap := h', toks := tk' }) :
    wpAny (model P0 w) (ktrTop dp un gd cn cs L a ccd cl outer) (call (.ref f) args) Q E s := C _ _ _ _ _ _ _ _ _ _ _ _ _ _ _ _ _ _ _ _ _ _ B F X N T hk hd hu ret
end

section
variable {M : Model} {A : Around} {E : Value → Shared → Prop} {s : Shared} {env : Env}
theorem ifexp_int {test : PySem.Expr} {c1 c2 : Int} {k1 k2 : Nat} {p1 p2 pos : Pos} {Q : Value → Shared → Prop}
    (h : wpAny M A (isTrue test env (eval test env)) (fun b s' => Q (.int (if b = true then c1 else c2) s'.toks) { s' with toks := s'.toks + 1 }) E s) :
    wpAny M A (eval (.IfExp test (.Constant (.int c1) k1 p1) (.Constant (.int c2) k2 p2) pos) env) Q E s := by
  refine IfExp_ (wpAny_mono h (fun b s' hb => ?_) fun _ _ e => e)
  cases b <;> exact wpAny_Constant_int hb
theorem ifexp_bool {test : PySem.Expr} {k1 k2 : Nat} {p1 p2 pos : Pos} {Q : Value → Shared → Prop}
    (h : wpAny M A (isTrue test env (eval test env)) (fun b s' => Q (.bool b) s') E s) :
    wpAny M A (eval (.IfExp test (.Constant (.bool true) k1 p1) (.Constant (.bool false) k2 p2) pos) env) Q E s := by
  refine IfExp_ (wpAny_mono h (fun b s' hb => ?_) fun _ _ e => e)
  cases b <;> exact wpAny_Constant_bool hb
end
/-- one bit of a byte -/
def bit (v : Int) (p : Nat) : Bool := v.toNat.testBit p
abbrev ent (w : World) (n : String) (t : Tok) (b : Bool) : DictEntry := ⟨PyData.keyHash w.params (Str.ofString n), .str (Str.ofString n) t, .bool b⟩
abbrev D2 (w : World) (T : Nat → Tok) (v : Int) : Obj := dictOf [ent w "class0" (T 0) (bit v 0), ent w "class1" (T 1) (bit v 1), ent w "class2" (T 2) (bit v 2), ent w "class3" (T 3) (bit v 3), ent w "class4" (T 4) (bit v 4)] 5
abbrev D1 (w : World) (T : Nat → Tok) (v : Int) : Obj := dictOf [ent w "maintenance_only" (T 0) (bit v 5), ent w "check_at_next_exit" (T 1) (bit v 6), ent w "check_immediately" (T 2) (bit v 7)] 3
abbrev D0 (w : World) (T : Nat → Tok) (v : Int) : Obj := dictOf [ent w "test_failed" (T 0) (bit v 0), ent w "test_failed_this_operation_cycle" (T 1) (bit v 1), ent w "pending" (T 2) (bit v 2), ent w "confirmed" (T 3) (bit v 3), ent w "test_not_completed_since_last_clear" (T 4) (bit v 4), ent w "test_failed_since_last_clear" (T 5) (bit v 5), ent w "test_not_completed_this_operation_cycle" (T 6) (bit v 6), ent w "warning_indicator_requested" (T 7) (bit v 7)] 8
end Mine
-- part PK
namespace Mine
open Builtin Builtin.Struct
theorem pk_entry : entryFor table "_struct.pack" = some Builtin.«_struct.pack» := entryFor_of_tree (by kernel_rfl)
theorem pk_kind : builtinKind "_struct.pack" = none := by decide +kernel
theorem pk_plain : plainId "_struct.pack" = true := by decide +kernel
theorem pk_args (a b : Value) : argsOk "_struct.pack" ⟨[a, b], []⟩ := by unfold argsOk; kernel_rfl
theorem pk_fmt (t : Tok) : moduleFormat (.str (Str.ofString "B") t) = pure ⟨false, true, [⟨'B', 1, 0, 1⟩], 1, 1⟩ := by kernel_rfl
theorem pk_is (F : Str) (t u : Tok) (n : Int) : Builtin.«_struct.pack» ⟨[.str F t, .int n u], []⟩ = (moduleFormat (.str F t) >>= fun f => Struct.packed "_struct.pack" "pack" f [.int n u]) := by kernel_rfl
section
variable {M : Model} {A : Around} {E : Value → Shared → Prop} {s : Shared}
theorem KPc.turn' {α β : Type} {l : List α} {x : α} {b : β} {f : α → β → Sem (ForInStep β)} {Q : β → Shared → Prop}
    (h : wpAny M A (f x b) (fun r s' => match r with | .done b' => Q b' s' | .yield b' => wpAny M A (forIn l b' f) Q E s') E s) : wpAny M A (forIn (x :: l) b f) Q E s := by
  rw [List.forIn_cons]
  refine wpAny_bind (wpAny_mono h (fun r s' hr => ?_) fun _ _ e => e)
  cases r with
  | done b' => exact wpAny_pure hr
  | yield b' => exact hr
theorem pk_run {n : Int} {u : Tok} (h0 : 0 ≤ n) (h1 : n < 256) {Q : Fin → Shared → Prop}
    (h : Q (.done (.ret (.bytes #[n.toNat.toUInt8] s.toks))) { s with toks := s.toks + 1 }) :
    wpAny M A (Struct.packed "_struct.pack" "pack" ⟨false, true, [⟨'B', 1, 0, 1⟩], 1, 1⟩ [.int n u]) Q E s := by
  unfold Struct.packed Struct.packEach
  dsimp only [List.length]
  simp only [bne_self_eq_false, Bool.false_eq_true, if_false]
  refine wpAny_ite (KPc.ite_no (KPc.short (by decide +kernel)) ?_)
  refine wpAny_bind ?_
  refine wpAny_bind ?_
  refine KPc.turn' ?_
  refine wpAny_ite (KPc.ite_no (by decide) ?_)
  refine wpAny_ite (KPc.ite_no (by decide) ?_)
  refine wpAny_bind ?_
  rw [KPc.range_list]
  refine KPc.turn' (x := 0) (l := []) ?_
  dsimp only
  refine wpAny_bind ?_
  with_unfolding_all refine wpAny_ite (c := (decide (n < 0) || decide (n > 255)) = true) ?_
  rw [if_neg (by simp; omega)]
  refine wpAny_pure ?_
  refine wpAny_bind (wpAny_pure ?_)
  refine wpAny_pure ?_
  dsimp only
  refine wpAny_pure ?_
  dsimp only
  refine wpAny_pure ?_
  dsimp only
  rw [List.forIn_nil]
  refine wpAny_pure ?_
  refine wpAny_pure ?_
  refine wpAny_bind ?_
  have hb : intBytes false 1 n = #[n.toNat.toUInt8] := by
    have e : n % 2 ^ (8 * 1) = n := by omega
    unfold intBytes
    rw [e]
    simp only [Memoryview.toLittleEndian]
    have e2 : n.toNat / 256 ^ 0 % 256 = n.toNat := by omega
    show (List.map (fun k => (n.toNat / 256 ^ k % 256).toUInt8) [0]).toArray = _
    simp only [List.map_cons, List.map_nil, e2]
  rw [hb]
  refine wpAny_mkBytes (wpAny_pure ?_) (by show 1 ≤ sizeLine; decide +kernel)
  exact h
end
theorem pack_B {prog : Program} {w : World} {A : Around} {E : Value → Shared → Prop} {s : Shared} {n : Int} {t u : Tok} {Q : Value → Shared → Prop} (h0 : 0 ≤ n) (h1 : n < 256)
    (h : Q (.bytes #[n.toNat.toUInt8] s.toks) { s with toks := s.toks + 1 }) : wpAny (model prog w) A (call (.builtin "_struct.pack") [.str (Str.ofString "B") t, .int n u]) Q E s := by
  refine call_function_entry pk_kind pk_plain pk_entry (pk_args _ _) ?_
  rw [pk_is, pk_fmt]
  refine wpAny_bind (wpAny_pure ?_)
  exact pk_run h0 h1 ⟨_, rfl, h⟩
end Mine
-- part LB
namespace Mine
section
variable {prog : Program} {w : World} {A : Around} {E : Value → Shared → Prop} {s : Shared}
theorem lb_extend {R : Result → Shared → Prop} (hh : A.handled = none) (b : Array UInt8) (t : Tok) (S : Addr) (res : Value) (c₀ : Nat) (hS : s.heap.get? S = some { cls := .type "list", data := .seq #[] c₀ })
    (hR : ∀ h' tk acc' c', (∀ b o, b ≠ S → s.heap.get? b = some o → h'.get? b = some o) → h'.get? S = some { cls := .type "list", dict := none, data := .seq acc' c', slots := #[] } →
      ItemsOf (fun i v => ∃ c u, b[i]? = some c ∧ v = .int (c.toNat : Int) u) acc' b.size → R (.ok (.ret res)) { s with heap := h', toks := tk }) (hn : b.size ≤ sizeLine) :
    wpAny (model prog w) A.in1 (Builtin.List.listExtendWith (.ref S) (.bytes b t) res)
      (fun fin s' => match fin with | .done f => R (.ok f) s' | .again c' => c'.quiet = true ∧ codeAny (model prog w) A c' R s') (fun e s' => R (.error e) s') s := by
  have hSI : S ≠ s.heap.objs.size := Nat.ne_of_lt (Heap.lt_size hS)
  have hSf : S ∉ [s.heap.objs.size] := fun hm => hSI (List.mem_singleton.mp hm)
  unfold Builtin.List.listExtendWith
  refine wpAny_bind (wpAny_typeOf (T := "bytes") (v := .bytes b t) rfl ?_)
  have h1 : Builtin.List.listSameRef (.ref S) (.bytes b t) = false := rfl
  have h2 : (Value.type "bytes" == Value.type "list") = false := by decide
  have h3 : (Value.type "bytes" == Value.type "tuple") = false := by decide
  simp only [h1, h2, h3, Bool.or_false, Bool.false_eq_true, if_false]
  refine wpAny_bind (KBw.pyIter_bytes ?_)
  refine wpAny_bind (wpAny_holding ?_)
  unfold Builtin.List.listLengthHint
  refine wpAny_bind (wpAny_specialOf (T := "bytes") (v := .bytes b t) rfl FB.slot_bytes_len.lookup ?_)
  wp_delta
  refine wpAny_bind (wpAny_isInstance (T := "bytes") (v := .bytes b t) (b := true) rfl (by rw [isSubtype_type]; kernel_rfl) ?_)
  show wpAny _ _ (typeOf (Value.bytes b t) >>= _) _ _ _
  refine wpAny_bind (wpAny_typeOf (T := "bytes") (v := .bytes b t) rfl ?_)
  refine wpAny_pure ?_
  rw [if_neg (by decide)]
  refine wpAny_pure ⟨plainId_quiet F.plain_extend_loop _, codeAny_extend_loopS (KBw.walks (A := A.in1) hh s.heap.objs.size b t).toS hn _ hSf _ b.size 0 _ _ _ rfl (Nat.zero_le _) ⟨_, Heap.get?_push_size _ rfl, rfl, rfl⟩ (Heap.get?_push_of_some _ hS) (ItemsOf.nil _) fun s' acc' c' hm hS' hacc => ?_⟩
  rw [Moved.eq_with hm]
  refine hR s'.heap s'.toks acc' c' (fun b ob hb e => hm.heap b ob (fun hmem => ?_) (Heap.get?_push_of_some _ e)) hS' hacc
  rcases List.mem_cons.mp hmem with e' | hmem
  · exact hb e'
  · exact absurd (Heap.lt_size e) (by rw [List.mem_singleton.mp hmem]; exact Nat.lt_irrefl _)

theorem lb_init {R : Result → Shared → Prop} (hh : A.handled = none) (b : Array UInt8) (t : Tok) (S : Addr) (hS : s.heap.get? S = some { cls := .type "list", data := .seq #[] })
    (hR : ∀ h' tk acc' c', (∀ b o, b ≠ S → s.heap.get? b = some o → h'.get? b = some o) → h'.get? S = some { cls := .type "list", dict := none, data := .seq acc' c', slots := #[] } →
      ItemsOf (fun i v => ∃ c u, b[i]? = some c ∧ v = .int (c.toNat : Int) u) acc' b.size → R (.ok (.ret .none)) { s with heap := h', toks := tk }) (hn : b.size ≤ sizeLine) :
    wpAny (model prog w) A.in1 (Builtin.«list.__init__» ⟨[.ref S, .bytes b t], []⟩)
      (fun fin s' => match fin with | .done f => R (.ok f) s' | .again c' => c'.quiet = true ∧ codeAny (model prog w) A c' R s') (fun e s' => R (.error e) s') s := by
  show wpAny _ _ (do let old ← Builtin.List.listItems (.ref S); Builtin.List.listUpdate (.ref S) (fun _ => #[]); letGo old.toList.reverse; Builtin.List.listExtendWith (.ref S) (.bytes b t) .none) _ _ s
  refine wpAny_bind ?_
  unfold Builtin.List.listItems
  refine wpAny_bind (wpAny_seqItems hS rfl (wpAny_pure ?_))
  show wpAny _ _ (updateSeq S (fun _ => #[]) >>= fun _ => letGo (#[] : Array Value).toList.reverse >>= fun _ => Builtin.List.listExtendWith (.ref S) (.bytes b t) .none) _ _ s
  refine wpAny_bind (wpAny_updateSeq hS rfl ?_)
  have hS₂ := Heap.get?_update_self (Obj.mapSeq (fun _ => (#[] : Array Value))) hS rfl
  have oth : ∀ b o, b ≠ S → s.heap.get? b = some o → (s.heap.update S (Obj.mapSeq (fun _ => (#[] : Array Value)))).get? b = some o :=
    fun b o hb e => (Heap.get?_update_other _ _ (Ne.symm hb)).trans e
  refine wpAny_bind (wpAny_letGo ?_)
  refine lb_extend (hn := hn) hh b t S .none _ hS₂ fun h' tk acc' c' hk hS' hacc => ?_
  exact hR h' tk acc' c' (fun b o hb e => hk b o hb (oth b o hb e)) hS' hacc

theorem lb_call {Q : Value → Shared → Prop} (hh : A.handled = none) (b : Array UInt8) (t : Tok)
    (hQ : ∀ h' tk acc' c', (∀ b o, s.heap.get? b = some o → h'.get? b = some o) →
      h'.get? s.heap.objs.size = some { cls := .type "list", dict := none, data := .seq acc' c', slots := #[] } → ItemsOf (fun i v => ∃ c u, b[i]? = some c ∧ v = .int (c.toNat : Int) u) acc' b.size → Q (.ref s.heap.objs.size) { s with heap := h', toks := tk }) (hn : b.size ≤ sizeLine) :
    wpAny (model prog w) A (call (.type "list") [.bytes b t]) Q E s := by
  refine callType_codes (Q₁ := fun obj s₁ => obj = .ref s.heap.objs.size ∧ s₁ = { s with heap := s.heap.push { cls := .type "list", data := .seq #[] } }) F.called_list (F.typeCall_list_1 _) F.entry_list_init
    (code_list_new _ ⟨rfl, rfl⟩) fun obj s₁ h₁ => ?_
  obtain ⟨rfl, rfl⟩ := h₁
  have hS : (s.heap.push { cls := .type "list", data := .seq #[] }).get? s.heap.objs.size = some { cls := .type "list", data := .seq #[] } := Heap.get?_push_size _ rfl
  refine ⟨⟨_, hS, rfl⟩, F.args_list_init_2 _ _, lb_init (A := A.in1) (hn := hn) hh b t _ hS fun h' tk acc' c' hk hS' hacc => ?_⟩
  exact ⟨rfl, hQ h' tk acc' c' (fun b o e => hk b o (Nat.ne_of_lt (Heap.lt_size e)) (Heap.get?_push_of_some _ e)) hS' hacc⟩
end
/-- list(b) of one byte, onto the ledger -/
theorem list_byte {prog : Program} {w : World} {A : Around} {E : Value → Shared → Prop} {s : Shared} {h₀ : Heap} {L : Addr} {m : Str → Option Value} {news : List (Addr × Obj)} {n : Int} {t : Tok} {Q : Value → Shared → Prop}
    (F : Fr h₀ L s.heap m) (N : News h₀ L s.heap news) (hh : A.handled = none) (h0 : 0 ≤ n) (h1 : n < 256)
    (h : ∀ D u c h' tk, Fr h₀ L h' m → News h₀ L h' ((D, listOf #[.int n u] c) :: news) → (∀ q ∈ news, q.1 < D) → Q (.ref D) { s with heap := h', toks := tk }) :
    wpAny (model prog w) A (call (.type "list") [.bytes #[n.toNat.toUInt8] t]) Q E s := by
  refine lb_call hh _ _ (fun h' tk acc' c' hk hD hacc => ?_) (by show 1 ≤ sizeLine; decide +kernel)
  obtain ⟨hz, hi⟩ := hacc
  obtain ⟨x, rfl⟩ : ∃ x, acc' = #[x] := by
    have hz' : acc'.size = 1 := hz
    exact ⟨acc'[0], by apply Array.ext; simp [hz']; intro i h1 h2; have : i = 0 := by omega
                       subst this; rfl⟩
  obtain ⟨c, u, hc, rfl⟩ := hi 0 x rfl
  have hc' : n.toNat.toUInt8 = c := by simpa using hc
  have e : ((c.toNat : Nat) : Int) = n := by rw [← hc']; exact byte_back h0 h1
  rw [e] at hD
  exact h _ u c' h' tk (F.keeps hk) (news_pushed F N hk hD rfl) fun q hq => Heap.lt_size (N q hq).1
end Mine
-- part C1
namespace Mine
local macro_rules | `(tactic| walk_at "eval IfExp") => `(tactic| with_reducible (first | refine ifexp_int ?_ | refine ifexp_bool ?_))
local macro_rules | `(tactic| walk_at "call builtin:_struct.pack") => `(tactic| (refine pack_B (by first | assumption | omega) (by first | assumption | omega) ?_))
/-- the values a kind's object may hold -/
def Ok (k : Nat) (v : Int) : Prop := match k with
  | 0 => 0 ≤ v ∧ v < 256
  | 1 => (0 ≤ v ∧ v < 256) ∧ v % 32 = 0
  | _ => 0 ≤ v ∧ v < 32

theorem fin_all {N : Nat} {P : Int → Prop} (h : ∀ n : Fin N, P (n.val : Int)) (v : Int) (h0 : 0 ≤ v) (h1 : v < N) : P v := by
  obtain ⟨n, rfl⟩ := Int.eq_ofNat_of_zero_le h0
  exact h ⟨n, by omega⟩
theorem or0 {v : Int} (h : Ok 0 v) : (Builtin.bitOr (Builtin.bitOr (Builtin.bitOr (Builtin.bitOr (Builtin.bitOr (Builtin.bitOr (Builtin.bitOr (Builtin.bitOr 0 (if bit v 0 = true then 1 else 0)) (if bit v 1 = true then 2 else 0)) (if bit v 2 = true then 4 else 0)) (if bit v 3 = true then 8 else 0)) (if bit v 4 = true then 16 else 0)) (if bit v 5 = true then 32 else 0)) (if bit v 6 = true then 64 else 0)) (if bit v 7 = true then 128 else 0)) = v :=
  fin_all (N := 256) (P := fun v => (Builtin.bitOr (Builtin.bitOr (Builtin.bitOr (Builtin.bitOr (Builtin.bitOr (Builtin.bitOr (Builtin.bitOr (Builtin.bitOr 0 (if bit v 0 = true then 1 else 0)) (if bit v 1 = true then 2 else 0)) (if bit v 2 = true then 4 else 0)) (if bit v 3 = true then 8 else 0)) (if bit v 4 = true then 16 else 0)) (if bit v 5 = true then 32 else 0)) (if bit v 6 = true then 64 else 0)) (if bit v 7 = true then 128 else 0)) = v) (by decide +kernel) v h.1 h.2
theorem or1 {v : Int} (h : Ok 1 v) : (Builtin.bitOr (Builtin.bitOr (Builtin.bitOr 0 (if bit v 5 = true then 32 else 0)) (if bit v 6 = true then 64 else 0)) (if bit v 7 = true then 128 else 0)) = v :=
  fin_all (N := 256) (P := fun v => v % 32 = 0 → (Builtin.bitOr (Builtin.bitOr (Builtin.bitOr 0 (if bit v 5 = true then 32 else 0)) (if bit v 6 = true then 64 else 0)) (if bit v 7 = true then 128 else 0)) = v) (by decide +kernel) v h.1.1 h.1.2 h.2
theorem or2 {v : Int} (h : Ok 2 v) : (Builtin.bitOr (Builtin.bitOr (Builtin.bitOr (Builtin.bitOr (Builtin.bitOr 0 (if bit v 0 = true then 1 else 0)) (if bit v 1 = true then 2 else 0)) (if bit v 2 = true then 4 else 0)) (if bit v 3 = true then 8 else 0)) (if bit v 4 = true then 16 else 0)) = v :=
  fin_all (N := 32) (P := fun v => (Builtin.bitOr (Builtin.bitOr (Builtin.bitOr (Builtin.bitOr (Builtin.bitOr 0 (if bit v 0 = true then 1 else 0)) (if bit v 1 = true then 2 else 0)) (if bit v 2 = true then 4 else 0)) (if bit v 3 = true then 8 else 0)) (if bit v 4 = true then 16 else 0)) = v) (by decide +kernel) v h.1 h.2
theorem Ok.lo {k : Nat} {v : Int} (h : Ok k v) : 0 ≤ v := by
  match k, h with
  | 0, h => exact h.1
  | 1, h => exact h.1.1
  | _ + 2, h => exact h.1
theorem Ok.hi {k : Nat} {v : Int} (h : Ok k v) : v < 256 := by
  match k, h with
  | 0, h => exact h.2
  | 1, h => exact h.1.2
  | _ + 2, h => have := h.2; omega

theorem gbi0 (w : World) {x dx : Addr} {T : Nat → Tok} {v : Int} {news : Led} (hv : Ok 0 v) (hx : (x, instObj 126 dx) ∈ news) (hdx : (dx, D0 w T v) ∈ news) :
    Con 3 w 99 [.ref x] news (fun r n' => (∃ t, r = .int v t) ∧ news = n') := by
  unfold Con
  intro p loose mean mg mb dp un gd cn cs a ccd cl outer A₀ base h₀ L m s Q E B F X N TT hk hd hu hret
  refine wpAny_call ?_
  (first | k_dflt cell_enter | fail "the helper is not entered")
  k_steps
  rw [or0 hv]
  exact hret _ _ _ _ ⟨⟨_, rfl⟩, rfl⟩ (by assumption) (by assumption)

theorem gbi1 (w : World) {x dx : Addr} {T : Nat → Tok} {v : Int} {news : Led} (hv : Ok 1 v) (hx : (x, instObj 187 dx) ∈ news) (hdx : (dx, D1 w T v) ∈ news) :
    Con 3 w 152 [.ref x] news (fun r n' => (∃ t, r = .int v t) ∧ news = n') := by
  unfold Con
  intro p loose mean mg mb dp un gd cn cs a ccd cl outer A₀ base h₀ L m s Q E B F X N TT hk hd hu hret
  refine wpAny_call ?_
  (first | k_dflt cell_enter | fail "the helper is not entered")
  k_steps
  rw [or1 hv]
  exact hret _ _ _ _ ⟨⟨_, rfl⟩, rfl⟩ (by assumption) (by assumption)

theorem gbi2 (w : World) {x dx : Addr} {T : Nat → Tok} {v : Int} {news : Led} (hv : Ok 2 v) (hx : (x, instObj 276 dx) ∈ news) (hdx : (dx, D2 w T v) ∈ news) :
    Con 3 w 241 [.ref x] news (fun r n' => (∃ t, r = .int v t) ∧ news = n') := by
  unfold Con
  intro p loose mean mg mb dp un gd cn cs a ccd cl outer A₀ base h₀ L m s Q E B F X N TT hk hd hu hret
  refine wpAny_call ?_
  (first | k_dflt cell_enter | fail "the helper is not entered")
  k_steps
  rw [or2 hv]
  exact hret _ _ _ _ ⟨⟨_, rfl⟩, rfl⟩ (by assumption) (by assumption)

local macro_rules | `(tactic| walk_at "call ref") => `(tactic| (k_here; (with_reducible show wpAny _ _ (call (Value.ref 99) _) _ _ _); k_dflt (refine' Con.use (gbi0 _ ?c1 ?c2 ?c3) ?kB ?kF ?kX ?kN ?kT ?kK ?kd ?ku ?_; (case kB => k_asm); (case kF => k_asm); (case kX => k_asm); (case kN => k_asm); (case kT => k_asm); (case kK => exact rfl); (case c2 => k_mem); (case c3 => k_mem); (case c1 => assumption); (case kd => ktr_room); (case ku => ktr_units); k_whole); intro v9 n9 h9 tk9 e9 F9 N9; obtain ⟨⟨t9, e9⟩, e8⟩ := e9; subst e9; subst e8; (try k_sweep); (try dsimp only)))
local macro_rules | `(tactic| walk_at "call ref") => `(tactic| (k_here; (with_reducible show wpAny _ _ (call (Value.ref 152) _) _ _ _); k_dflt (refine' Con.use (gbi1 _ ?c1 ?c2 ?c3) ?kB ?kF ?kX ?kN ?kT ?kK ?kd ?ku ?_; (case kB => k_asm); (case kF => k_asm); (case kX => k_asm); (case kN => k_asm); (case kT => k_asm); (case kK => exact rfl); (case c2 => k_mem); (case c3 => k_mem); (case c1 => assumption); (case kd => ktr_room); (case ku => ktr_units); k_whole); intro v9 n9 h9 tk9 e9 F9 N9; obtain ⟨⟨t9, e9⟩, e8⟩ := e9; subst e9; subst e8; (try k_sweep); (try dsimp only)))
local macro_rules | `(tactic| walk_at "call ref") => `(tactic| (k_here; (with_reducible show wpAny _ _ (call (Value.ref 241) _) _ _ _); k_dflt (refine' Con.use (gbi2 _ ?c1 ?c2 ?c3) ?kB ?kF ?kX ?kN ?kT ?kK ?kd ?ku ?_; (case kB => k_asm); (case kF => k_asm); (case kX => k_asm); (case kN => k_asm); (case kT => k_asm); (case kK => exact rfl); (case c2 => k_mem); (case c3 => k_mem); (case c1 => assumption); (case kd => ktr_room); (case ku => ktr_units); k_whole); intro v9 n9 h9 tk9 e9 F9 N9; obtain ⟨⟨t9, e9⟩, e8⟩ := e9; subst e9; subst e8; (try k_sweep); (try dsimp only)))
theorem gb0 (w : World) {x dx : Addr} {T : Nat → Tok} {v : Int} {news : Led} (hv : Ok 0 v) (hx : (x, instObj 126 dx) ∈ news) (hdx : (dx, D0 w T v) ∈ news) :
    Con 6 w 106 [.ref x] news (fun r n' => (∃ t, r = .bytes #[v.toNat.toUInt8] t) ∧ news = n') := by
  unfold Con
  intro p loose mean mg mb dp un gd cn cs a ccd cl outer A₀ base h₀ L m s Q E B F X N TT hk hd hu hret
  have v0 := hv.lo
  have v1 := hv.hi
  refine wpAny_call ?_
  (first | k_dflt cell_enter | fail "the helper is not entered")
  k_steps
  exact hret _ _ _ _ ⟨⟨_, rfl⟩, rfl⟩ (by assumption) (by assumption)

theorem gb1 (w : World) {x dx : Addr} {T : Nat → Tok} {v : Int} {news : Led} (hv : Ok 1 v) (hx : (x, instObj 187 dx) ∈ news) (hdx : (dx, D1 w T v) ∈ news) :
    Con 6 w 159 [.ref x] news (fun r n' => (∃ t, r = .bytes #[v.toNat.toUInt8] t) ∧ news = n') := by
  unfold Con
  intro p loose mean mg mb dp un gd cn cs a ccd cl outer A₀ base h₀ L m s Q E B F X N TT hk hd hu hret
  have v0 := hv.lo
  have v1 := hv.hi
  refine wpAny_call ?_
  (first | k_dflt cell_enter | fail "the helper is not entered")
  k_steps
  exact hret _ _ _ _ ⟨⟨_, rfl⟩, rfl⟩ (by assumption) (by assumption)

theorem gb2 (w : World) {x dx : Addr} {T : Nat → Tok} {v : Int} {news : Led} (hv : Ok 2 v) (hx : (x, instObj 276 dx) ∈ news) (hdx : (dx, D2 w T v) ∈ news) :
    Con 6 w 248 [.ref x] news (fun r n' => (∃ t, r = .bytes #[v.toNat.toUInt8] t) ∧ news = n') := by
  unfold Con
  intro p loose mean mg mb dp un gd cn cs a ccd cl outer A₀ base h₀ L m s Q E B F X N TT hk hd hu hret
  have v0 := hv.lo
  have v1 := hv.hi
  refine wpAny_call ?_
  (first | k_dflt cell_enter | fail "the helper is not entered")
  k_steps
  exact hret _ _ _ _ ⟨⟨_, rfl⟩, rfl⟩ (by assumption) (by assumption)

theorem av1 (w : World) {x dx : Addr} {T : Nat → Tok} {v : Int} {news : Led} (hv : Ok 1 v) (hx : (x, instObj 187 dx) ∈ news) (hdx : (dx, D1 w T v) ∈ news) :
    Con 6 w 183 [.ref x] news (fun r n' => r = .bool (decide (v > 0)) ∧ news = n') := by
  unfold Con
  intro p loose mean mg mb dp un gd cn cs a ccd cl outer A₀ base h₀ L m s Q E B F X N TT hk hd hu hret
  refine wpAny_call ?_
  (first | k_dflt cell_enter | fail "the helper is not entered")
  k_steps
  exact hret _ _ _ _ ⟨rfl, rfl⟩ (by assumption) (by assumption)

theorem av2 (w : World) {x dx : Addr} {T : Nat → Tok} {v : Int} {news : Led} (hv : Ok 2 v) (hx : (x, instObj 276 dx) ∈ news) (hdx : (dx, D2 w T v) ∈ news) :
    Con 6 w 262 [.ref x] news (fun r n' => r = .bool (decide (v > 0)) ∧ news = n') := by
  unfold Con
  intro p loose mean mg mb dp un gd cn cs a ccd cl outer A₀ base h₀ L m s Q E B F X N TT hk hd hu hret
  refine wpAny_call ?_
  (first | k_dflt cell_enter | fail "the helper is not entered")
  k_steps
  exact hret _ _ _ _ ⟨rfl, rfl⟩ (by assumption) (by assumption)

end Mine
-- part C2
namespace Mine
local macro_rules | `(tactic| walk_at "eval IfExp") => `(tactic| with_reducible (first | refine ifexp_int ?_ | refine ifexp_bool ?_))
local macro_rules | `(tactic| k_all) => `(tactic| assumption)
local macro_rules | `(tactic| k_room) => `(tactic| ktr_room)
theorem Con.mono {k : Nat} {w : World} {f : Addr} {args : List Value} {n1 n2 : Led} {R1 R2 : Value → Led → Prop} (C : Con k w f args n1 R1) (h1 : ∀ p ∈ n1, p ∈ n2)
    (h2 : ∀ v m1, R1 v m1 → ∃ m2, R2 v m2 ∧ ∀ p ∈ m2, p ∈ m1) : Con k w f args n2 R2 := by
  intro p loose mean mg mb dp un gd cn cs a ccd cl outer A₀ base h₀ L m s Q E B F X N TT hk hd hu hret
  refine C.use B F X (fun p hp => N p (h1 p hp)) TT hk hd hu (fun v m1 h' tk' hR F' N' => ?_)
  obtain ⟨m2, hm, hs⟩ := h2 v m1 hR
  exact hret v m2 h' tk' hm F' fun p hp => N' p (hs p hp)
theorem Con.upd {k : Nat} {w : World} {f : Addr} {args : List Value} {n n' : Led} {x dx : Addr} {ox o o' : Obj} {P : Value → Prop} (hne : ox ≠ o) (hx : (x, ox) ∈ n) (U : Upd dx o o' n n')
    (C : ∀ rest : Led, x ≠ dx → (∀ p ∈ rest, p.1 ≠ dx) → Con k w f args ((x, ox) :: (dx, o) :: rest) (fun r m => P r ∧ (x, ox) :: (dx, o') :: rest = m)) : Con k w f args n (fun r m => P r ∧ n' = m) := by
  obtain ⟨pre, post, rfl, rfl, h1, h2⟩ := U.split
  have hx2 : (x, ox) ∈ pre ++ post := by
    rcases List.mem_append.mp hx with h | h
    · exact List.mem_append_left _ h
    · rcases List.mem_cons.mp h with h | h
      · exact absurd (congrArg Prod.snd h) hne
      · exact List.mem_append_right _ h
  have hall : ∀ p ∈ pre ++ post, p.1 ≠ dx := fun p hp => (List.mem_append.mp hp).elim (h1 p) (h2 p)
  refine (C (pre ++ post) (hall _ hx2) hall).mono ?_ ?_
  · intro p hp
    rcases List.mem_cons.mp hp with rfl | hp
    · exact hx
    · rcases List.mem_cons.mp hp with rfl | hp
      · simp
      · rcases List.mem_append.mp hp with h | h
        · exact List.mem_append_left _ h
        · exact List.mem_append_right _ (.tail _ h)
  · rintro v m1 ⟨hP, rfl⟩
    refine ⟨_, ⟨hP, rfl⟩, ?_⟩
    intro p hp
    rcases List.mem_append.mp hp with h | h
    · exact .tail _ (.tail _ (List.mem_append_left _ h))
    · rcases List.mem_cons.mp h with rfl | h
      · exact .tail _ (.head _)
      · exact .tail _ (.tail _ (List.mem_append_right _ h))
theorem len_one {prog : Program} {w : World} {A : Around} {E : Value → Shared → Prop} {s : Shared} {c : UInt8} {t : Tok} {Q : Value → Shared → Prop} (h : Q (.int 1 (s.toks + 1)) { s with toks := s.toks + 1 + 1 }) :
    wpAny (model prog w) A (call (.builtin "len") [.bytes #[c] t]) Q E s := len_bytes (by show 1 ≤ _; decide +kernel) h
local macro_rules | `(tactic| walk_at "call builtin:len") => `(tactic| (with_reducible refine len_one ?_))
theorem inst_ne_dict (C dx : Addr) (es : List DictEntry) (n : Nat) : instObj C dx ≠ dictOf es n := by
  intro h
  exact absurd (congrArg Obj.cls h) (by intro e; cases e)
/-- the walk's word of a bit, told of the byte kept -/
theorem band0 {v : Int} (h0 : 0 ≤ v) (h1 : v < 256) : ∀ p : Fin 8, decide (0 < Builtin.bitAnd v (2 ^ p.val)) = bit v p.val :=
  fin_all (N := 256) (P := fun v => ∀ p : Fin 8, decide (0 < Builtin.bitAnd v (2 ^ p.val)) = bit v p.val) (by decide +kernel) v h0 h1
theorem bit1 {v : Int} (h0 : 0 ≤ v) (h1 : v < 256) : ∀ p : Fin 8, 5 ≤ p.val → bit (v - v % 32) p.val = bit v p.val :=
  fin_all (N := 256) (P := fun v => ∀ p : Fin 8, 5 ≤ p.val → bit (v - v % 32) p.val = bit v p.val) (by decide +kernel) v h0 h1
theorem bit2 {v : Int} (h0 : 0 ≤ v) (h1 : v < 256) : ∀ p : Fin 8, p.val < 5 → bit (v % 32) p.val = bit v p.val :=
  fin_all (N := 256) (P := fun v => ∀ p : Fin 8, p.val < 5 → bit (v % 32) p.val = bit v p.val) (by decide +kernel) v h0 h1

theorem bt0_0 {v : Int} (h0 : 0 ≤ v) (h1 : v < 256) : decide (0 < Builtin.bitAnd v 1) = bit v 0 := (band0 h0 h1 ⟨0, by decide⟩)
theorem bt0_1 {v : Int} (h0 : 0 ≤ v) (h1 : v < 256) : decide (0 < Builtin.bitAnd v 2) = bit v 1 := (band0 h0 h1 ⟨1, by decide⟩)
theorem bt0_2 {v : Int} (h0 : 0 ≤ v) (h1 : v < 256) : decide (0 < Builtin.bitAnd v 4) = bit v 2 := (band0 h0 h1 ⟨2, by decide⟩)
theorem bt0_3 {v : Int} (h0 : 0 ≤ v) (h1 : v < 256) : decide (0 < Builtin.bitAnd v 8) = bit v 3 := (band0 h0 h1 ⟨3, by decide⟩)
theorem bt0_4 {v : Int} (h0 : 0 ≤ v) (h1 : v < 256) : decide (0 < Builtin.bitAnd v 16) = bit v 4 := (band0 h0 h1 ⟨4, by decide⟩)
theorem bt0_5 {v : Int} (h0 : 0 ≤ v) (h1 : v < 256) : decide (0 < Builtin.bitAnd v 32) = bit v 5 := (band0 h0 h1 ⟨5, by decide⟩)
theorem bt0_6 {v : Int} (h0 : 0 ≤ v) (h1 : v < 256) : decide (0 < Builtin.bitAnd v 64) = bit v 6 := (band0 h0 h1 ⟨6, by decide⟩)
theorem bt0_7 {v : Int} (h0 : 0 ≤ v) (h1 : v < 256) : decide (0 < Builtin.bitAnd v 128) = bit v 7 := (band0 h0 h1 ⟨7, by decide⟩)
theorem sbi0_ (w : World) {x dx : Addr} {T : Nat → Tok} {v v0 : Int} {t : Tok} (h0 : 0 ≤ v) (h1 : v < 256) (rest : Led) (hxd : x ≠ dx) (hr : ∀ p ∈ rest, p.1 ≠ dx) :
    Con 3 w 113 [.ref x, .int v t] ((x, instObj 126 dx) :: (dx, D0 w T v0) :: rest) (fun r n' => r = .none ∧ (x, instObj 126 dx) :: (dx, D0 w T v) :: rest = n') := by
  unfold Con
  intro p loose mean mg mb dp un gd cn cs a ccd cl outer A₀ base h₀ L m s Q E B F X N TT hk hd hu hret
  have hb9 := byte_back h0 h1
  refine wpAny_call ?_
  (first | k_dflt cell_enter | fail "the helper is not entered")
  k_steps
  (with_reducible rename News _ _ _ _ => N9)
  simp only [bt0_0 h0 h1, bt0_1 h0 h1, bt0_2 h0 h1, bt0_3 h0 h1, bt0_4 h0 h1, bt0_5 h0 h1, bt0_6 h0 h1, bt0_7 h0 h1] at N9
  exact hret _ _ _ _ ⟨rfl, rfl⟩ (by assumption) N9
theorem sbi0 (w : World) {x dx : Addr} {T : Nat → Tok} {v v0 : Int} {t : Tok} {n n' : Led} (h0 : 0 ≤ v) (h1 : v < 256) (hx : (x, instObj 126 dx) ∈ n) (U : Upd dx (D0 w T v0) (D0 w T v) n n') :
    Con 3 w 113 [.ref x, .int v t] n (fun r m => r = .none ∧ n' = m) := Con.upd (inst_ne_dict _ _ _ _) hx U (sbi0_ w h0 h1)

theorem sbb0_ (w : World) {x dx : Addr} {T : Nat → Tok} {v v0 : Int} {t : Tok} (h0 : 0 ≤ v) (h1 : v < 256) (rest : Led) (hxd : x ≠ dx) (hr : ∀ p ∈ rest, p.1 ≠ dx) :
    Con 3 w 113 [.ref x, .bytes #[v.toNat.toUInt8] t] ((x, instObj 126 dx) :: (dx, D0 w T v0) :: rest) (fun r n' => r = .none ∧ (x, instObj 126 dx) :: (dx, D0 w T v) :: rest = n') := by
  unfold Con
  intro p loose mean mg mb dp un gd cn cs a ccd cl outer A₀ base h₀ L m s Q E B F X N TT hk hd hu hret
  have hb9 := byte_back h0 h1
  refine wpAny_call ?_
  (first | k_dflt cell_enter | fail "the helper is not entered")
  k_steps
  (with_reducible rename News _ _ _ _ => N9)
  simp only [bt0_0 h0 h1, bt0_1 h0 h1, bt0_2 h0 h1, bt0_3 h0 h1, bt0_4 h0 h1, bt0_5 h0 h1, bt0_6 h0 h1, bt0_7 h0 h1] at N9
  exact hret _ _ _ _ ⟨rfl, rfl⟩ (by assumption) N9
theorem sbb0 (w : World) {x dx : Addr} {T : Nat → Tok} {v v0 : Int} {t : Tok} {n n' : Led} (h0 : 0 ≤ v) (h1 : v < 256) (hx : (x, instObj 126 dx) ∈ n) (U : Upd dx (D0 w T v0) (D0 w T v) n n') :
    Con 3 w 113 [.ref x, .bytes #[v.toNat.toUInt8] t] n (fun r m => r = .none ∧ n' = m) := Con.upd (inst_ne_dict _ _ _ _) hx U (sbb0_ w h0 h1)

theorem bt1_5 {v : Int} (h0 : 0 ≤ v) (h1 : v < 256) : decide (0 < Builtin.bitAnd v 32) = bit (v - v % 32) 5 := ((band0 h0 h1 ⟨5, by decide⟩).trans (bit1 h0 h1 ⟨5, by decide⟩ (by decide)).symm)
theorem bt1_6 {v : Int} (h0 : 0 ≤ v) (h1 : v < 256) : decide (0 < Builtin.bitAnd v 64) = bit (v - v % 32) 6 := ((band0 h0 h1 ⟨6, by decide⟩).trans (bit1 h0 h1 ⟨6, by decide⟩ (by decide)).symm)
theorem bt1_7 {v : Int} (h0 : 0 ≤ v) (h1 : v < 256) : decide (0 < Builtin.bitAnd v 128) = bit (v - v % 32) 7 := ((band0 h0 h1 ⟨7, by decide⟩).trans (bit1 h0 h1 ⟨7, by decide⟩ (by decide)).symm)
theorem sbi1_ (w : World) {x dx : Addr} {T : Nat → Tok} {v v0 : Int} {t : Tok} (h0 : 0 ≤ v) (h1 : v < 256) (rest : Led) (hxd : x ≠ dx) (hr : ∀ p ∈ rest, p.1 ≠ dx) :
    Con 3 w 166 [.ref x, .int v t] ((x, instObj 187 dx) :: (dx, D1 w T v0) :: rest) (fun r n' => r = .none ∧ (x, instObj 187 dx) :: (dx, D1 w T (v - v % 32)) :: rest = n') := by
  unfold Con
  intro p loose mean mg mb dp un gd cn cs a ccd cl outer A₀ base h₀ L m s Q E B F X N TT hk hd hu hret
  have hb9 := byte_back h0 h1
  refine wpAny_call ?_
  (first | k_dflt cell_enter | fail "the helper is not entered")
  k_steps
  (with_reducible rename News _ _ _ _ => N9)
  simp only [bt1_5 h0 h1, bt1_6 h0 h1, bt1_7 h0 h1] at N9
  exact hret _ _ _ _ ⟨rfl, rfl⟩ (by assumption) N9
theorem sbi1 (w : World) {x dx : Addr} {T : Nat → Tok} {v v0 : Int} {t : Tok} {n n' : Led} (h0 : 0 ≤ v) (h1 : v < 256) (hx : (x, instObj 187 dx) ∈ n) (U : Upd dx (D1 w T v0) (D1 w T (v - v % 32)) n n') :
    Con 3 w 166 [.ref x, .int v t] n (fun r m => r = .none ∧ n' = m) := Con.upd (inst_ne_dict _ _ _ _) hx U (sbi1_ w h0 h1)

theorem sbb1_ (w : World) {x dx : Addr} {T : Nat → Tok} {v v0 : Int} {t : Tok} (h0 : 0 ≤ v) (h1 : v < 256) (rest : Led) (hxd : x ≠ dx) (hr : ∀ p ∈ rest, p.1 ≠ dx) :
    Con 3 w 166 [.ref x, .bytes #[v.toNat.toUInt8] t] ((x, instObj 187 dx) :: (dx, D1 w T v0) :: rest) (fun r n' => r = .none ∧ (x, instObj 187 dx) :: (dx, D1 w T (v - v % 32)) :: rest = n') := by
  unfold Con
  intro p loose mean mg mb dp un gd cn cs a ccd cl outer A₀ base h₀ L m s Q E B F X N TT hk hd hu hret
  have hb9 := byte_back h0 h1
  refine wpAny_call ?_
  (first | k_dflt cell_enter | fail "the helper is not entered")
  k_steps
  (with_reducible rename News _ _ _ _ => N9)
  simp only [bt1_5 h0 h1, bt1_6 h0 h1, bt1_7 h0 h1] at N9
  exact hret _ _ _ _ ⟨rfl, rfl⟩ (by assumption) N9
theorem sbb1 (w : World) {x dx : Addr} {T : Nat → Tok} {v v0 : Int} {t : Tok} {n n' : Led} (h0 : 0 ≤ v) (h1 : v < 256) (hx : (x, instObj 187 dx) ∈ n) (U : Upd dx (D1 w T v0) (D1 w T (v - v % 32)) n n') :
    Con 3 w 166 [.ref x, .bytes #[v.toNat.toUInt8] t] n (fun r m => r = .none ∧ n' = m) := Con.upd (inst_ne_dict _ _ _ _) hx U (sbb1_ w h0 h1)

theorem bt2_0 {v : Int} (h0 : 0 ≤ v) (h1 : v < 256) : decide (0 < Builtin.bitAnd v 1) = bit (v % 32) 0 := ((band0 h0 h1 ⟨0, by decide⟩).trans (bit2 h0 h1 ⟨0, by decide⟩ (by decide)).symm)
theorem bt2_1 {v : Int} (h0 : 0 ≤ v) (h1 : v < 256) : decide (0 < Builtin.bitAnd v 2) = bit (v % 32) 1 := ((band0 h0 h1 ⟨1, by decide⟩).trans (bit2 h0 h1 ⟨1, by decide⟩ (by decide)).symm)
theorem bt2_2 {v : Int} (h0 : 0 ≤ v) (h1 : v < 256) : decide (0 < Builtin.bitAnd v 4) = bit (v % 32) 2 := ((band0 h0 h1 ⟨2, by decide⟩).trans (bit2 h0 h1 ⟨2, by decide⟩ (by decide)).symm)
theorem bt2_3 {v : Int} (h0 : 0 ≤ v) (h1 : v < 256) : decide (0 < Builtin.bitAnd v 8) = bit (v % 32) 3 := ((band0 h0 h1 ⟨3, by decide⟩).trans (bit2 h0 h1 ⟨3, by decide⟩ (by decide)).symm)
theorem bt2_4 {v : Int} (h0 : 0 ≤ v) (h1 : v < 256) : decide (0 < Builtin.bitAnd v 16) = bit (v % 32) 4 := ((band0 h0 h1 ⟨4, by decide⟩).trans (bit2 h0 h1 ⟨4, by decide⟩ (by decide)).symm)
theorem sbi2_ (w : World) {x dx : Addr} {T : Nat → Tok} {v v0 : Int} {t : Tok} (h0 : 0 ≤ v) (h1 : v < 256) (rest : Led) (hxd : x ≠ dx) (hr : ∀ p ∈ rest, p.1 ≠ dx) :
    Con 3 w 255 [.ref x, .int v t] ((x, instObj 276 dx) :: (dx, D2 w T v0) :: rest) (fun r n' => r = .none ∧ (x, instObj 276 dx) :: (dx, D2 w T (v % 32)) :: rest = n') := by
  unfold Con
  intro p loose mean mg mb dp un gd cn cs a ccd cl outer A₀ base h₀ L m s Q E B F X N TT hk hd hu hret
  have hb9 := byte_back h0 h1
  refine wpAny_call ?_
  (first | k_dflt cell_enter | fail "the helper is not entered")
  k_steps
  (with_reducible rename News _ _ _ _ => N9)
  simp only [bt2_0 h0 h1, bt2_1 h0 h1, bt2_2 h0 h1, bt2_3 h0 h1, bt2_4 h0 h1] at N9
  exact hret _ _ _ _ ⟨rfl, rfl⟩ (by assumption) N9
theorem sbi2 (w : World) {x dx : Addr} {T : Nat → Tok} {v v0 : Int} {t : Tok} {n n' : Led} (h0 : 0 ≤ v) (h1 : v < 256) (hx : (x, instObj 276 dx) ∈ n) (U : Upd dx (D2 w T v0) (D2 w T (v % 32)) n n') :
    Con 3 w 255 [.ref x, .int v t] n (fun r m => r = .none ∧ n' = m) := Con.upd (inst_ne_dict _ _ _ _) hx U (sbi2_ w h0 h1)

theorem sbb2_ (w : World) {x dx : Addr} {T : Nat → Tok} {v v0 : Int} {t : Tok} (h0 : 0 ≤ v) (h1 : v < 256) (rest : Led) (hxd : x ≠ dx) (hr : ∀ p ∈ rest, p.1 ≠ dx) :
    Con 3 w 255 [.ref x, .bytes #[v.toNat.toUInt8] t] ((x, instObj 276 dx) :: (dx, D2 w T v0) :: rest) (fun r n' => r = .none ∧ (x, instObj 276 dx) :: (dx, D2 w T (v % 32)) :: rest = n') := by
  unfold Con
  intro p loose mean mg mb dp un gd cn cs a ccd cl outer A₀ base h₀ L m s Q E B F X N TT hk hd hu hret
  have hb9 := byte_back h0 h1
  refine wpAny_call ?_
  (first | k_dflt cell_enter | fail "the helper is not entered")
  k_steps
  (with_reducible rename News _ _ _ _ => N9)
  simp only [bt2_0 h0 h1, bt2_1 h0 h1, bt2_2 h0 h1, bt2_3 h0 h1, bt2_4 h0 h1] at N9
  exact hret _ _ _ _ ⟨rfl, rfl⟩ (by assumption) N9
theorem sbb2 (w : World) {x dx : Addr} {T : Nat → Tok} {v v0 : Int} {t : Tok} {n n' : Led} (h0 : 0 ≤ v) (h1 : v < 256) (hx : (x, instObj 276 dx) ∈ n) (U : Upd dx (D2 w T v0) (D2 w T (v % 32)) n n') :
    Con 3 w 255 [.ref x, .bytes #[v.toNat.toUInt8] t] n (fun r m => r = .none ∧ n' = m) := Con.upd (inst_ne_dict _ _ _ _) hx U (sbb2_ w h0 h1)

end Mine
-- part C3
namespace Mine
local macro_rules | `(tactic| k_room) => `(tactic| ktr_room)
/-- a contract for a call from the law's own frame (no frame below it) -/
def ConL (k : Nat) (w : World) (f : Addr) (args : List Value) (news : Led) (R : Value → Led → Prop) : Prop :=
  ∀ (p : Program) (loose : List Str) (mean : ExcName → Option Value) (mg mb : Str → Option Value) (dp un : Nat) (gd : Option (List Code)) (cn : Str) (cs : Scope) (a : Addr) (ccd : Value) (A₀ : Around) (h₀ : Heap) (L : Addr) (m : Str → Option Value) (s : Shared) (Q E : Value → Shared → Prop),
    Below A₀ h₀ [] h₀ → Fr h₀ L s.heap m → (hd.heap_39 w.params).In h₀ → News h₀ L s.heap news → Top p loose mean mg mb h₀ → cs.kind = .function →
    dp + k < recursionLimit → un + 10 * k < cLine →
    (∀ v news' h' tk', R v news' → Fr h₀ L h' m → News h₀ L h' news' → Q v { s with heap := h', toks := tk' }) →
    wpAny (model P0 w) (ktrTop dp un gd cn cs L a ccd [] []) (call (.ref f) args) Q E s
theorem ConL.use {k : Nat} {w : World} {f : Addr} {args : List Value} {news : Led} {R : Value → Led → Prop} (C : ConL k w f args news R) {p : Program} {loose : List Str} {mean : ExcName → Option Value} {mg mb : Str → Option Value} {dp un : Nat} {gd : Option (List Code)} {cn : Str} {cs : Scope} {a : Addr} {ccd : Value} {A₀ : Around} {h₀ : Heap} {L : Addr} {m : Str → Option Value} {s : Shared} {Q E : Value → Shared → Prop}
    (B : Below A₀ h₀ [] h₀) (F : Fr h₀ L s.heap m) (X : (hd.heap_39 w.params).In h₀) (N : News h₀ L s.heap news) (T : Top p loose mean mg mb h₀) (hk : cs.kind = .function)
    (hd : dp + k < recursionLimit) (hu : un + 10 * k < cLine)
    (ret : ∀ v news' h' tk', R v news' → Fr h₀ L h' m → News h₀ L h' news' → Q v { s with heap := h', toks := tk' }) :
    wpAny (model P0 w) (ktrTop dp un gd cn cs L a ccd [] []) (call (.ref f) args) Q E s := C _ _ _ _ _ _ _ _ _ _ _ _ _ _ _ _ _ _ _ B F X N T hk hd hu ret

theorem bas0 (w : World) {x dx : Addr} {T : Nat → Tok} {v : Int} {t : Tok} {news : Led} (hx : (x, instObj 126 dx) ∈ news) (hdx : (dx, D0 w T v) ∈ news) :
    ConL 10 w 360 [.ref x, .str (Str.ofString "1") t] news (fun r n' => r = .bool true ∧ news = n') := by
  unfold ConL
  intro p loose mean mg mb dp un gd cn cs a ccd A₀ h₀ L m s Q E B F X N TT hk hd hu hret
  refine wpAny_call ?_
  refine' code_defS0 B F X N TT ?kA ?k6 ?k7 ?k8 ?k9 ?kB ?_ hk ?c2 ?c3 ?c4 ?c5
  case kA => exact rfl
  case k6 => k_dflt k_is
  case k7 => k_dflt k_is
  case k8 => ktr_room
  case k9 => exact BindsTo.of_eq rfl
  case kB => exact locs rfl
  case c2 => exact rfl
  case c3 => exact rfl
  case c4 => exact rfl
  case c5 => decide
  intro g' L' h' FG' F' N' B' X' T' D'
  (try dsimp only)
  (try k_lift B')
  (try k_fold)
  k_steps

  exact hret _ _ _ _ ⟨rfl, rfl⟩ (by assumption) (by assumption)

theorem ban0 (w : World) {x dx : Addr} {T : Nat → Tok} {v : Int} {t : Tok} {news : Led} (hx : (x, instObj 126 dx) ∈ news) (hdx : (dx, D0 w T v) ∈ news) :
    ConL 10 w 360 [.ref x, .none] news (fun r n' => r = .bool true ∧ news = n') := by
  unfold ConL
  intro p loose mean mg mb dp un gd cn cs a ccd A₀ h₀ L m s Q E B F X N TT hk hd hu hret
  refine wpAny_call ?_
  refine' code_defS0 B F X N TT ?kA ?k6 ?k7 ?k8 ?k9 ?kB ?_ hk ?c2 ?c3 ?c4 ?c5
  case kA => exact rfl
  case k6 => k_dflt k_is
  case k7 => k_dflt k_is
  case k8 => ktr_room
  case k9 => exact BindsTo.of_eq rfl
  case kB => exact locs rfl
  case c2 => exact rfl
  case c3 => exact rfl
  case c4 => exact rfl
  case c5 => decide
  intro g' L' h' FG' F' N' B' X' T' D'
  (try dsimp only)
  (try k_lift B')
  (try k_fold)
  k_steps

  exact hret _ _ _ _ ⟨rfl, rfl⟩ (by assumption) (by assumption)

theorem bal0 (w : World) {x dx : Addr} {T : Nat → Tok} {v : Int} {t : Tok} {news : Led} (hx : (x, instObj 126 dx) ∈ news) (hdx : (dx, D0 w T v) ∈ news) :
    ConL 10 w 360 [.ref x, .ref 306] news (fun r n' => r = .bool true ∧ news = n') := by
  unfold ConL
  intro p loose mean mg mb dp un gd cn cs a ccd A₀ h₀ L m s Q E B F X N TT hk hd hu hret
  refine wpAny_call ?_
  refine' code_defS0 B F X N TT ?kA ?k6 ?k7 ?k8 ?k9 ?kB ?_ hk ?c2 ?c3 ?c4 ?c5
  case kA => exact rfl
  case k6 => k_dflt k_is
  case k7 => k_dflt k_is
  case k8 => ktr_room
  case k9 => exact BindsTo.of_eq rfl
  case kB => exact locs rfl
  case c2 => exact rfl
  case c3 => exact rfl
  case c4 => exact rfl
  case c5 => decide
  intro g' L' h' FG' F' N' B' X' T' D'
  (try dsimp only)
  (try k_lift B')
  (try k_fold)
  k_steps

  exact hret _ _ _ _ ⟨rfl, rfl⟩ (by assumption) (by assumption)

theorem bae0 (w : World) {x dx : Addr} {T : Nat → Tok} {v : Int} {t : Tok} {news : Led} (hx : (x, instObj 126 dx) ∈ news) (hdx : (dx, D0 w T v) ∈ news) :
    ConL 10 w 360 [.ref x, .bytes #[] t] news (fun r n' => r = .bool true ∧ news = n') := by
  unfold ConL
  intro p loose mean mg mb dp un gd cn cs a ccd A₀ h₀ L m s Q E B F X N TT hk hd hu hret
  refine wpAny_call ?_
  refine' code_defS0 B F X N TT ?kA ?k6 ?k7 ?k8 ?k9 ?kB ?_ hk ?c2 ?c3 ?c4 ?c5
  case kA => exact rfl
  case k6 => k_dflt k_is
  case k7 => k_dflt k_is
  case k8 => ktr_room
  case k9 => exact BindsTo.of_eq rfl
  case kB => exact locs rfl
  case c2 => exact rfl
  case c3 => exact rfl
  case c4 => exact rfl
  case c5 => decide
  intro g' L' h' FG' F' N' B' X' T' D'
  (try dsimp only)
  (try k_lift B')
  (try k_fold)
  k_steps

  exact hret _ _ _ _ ⟨rfl, rfl⟩ (by assumption) (by assumption)

theorem bat0 (w : World) {x dx : Addr} {T : Nat → Tok} {v : Int} {t : Tok} {news : Led} (hx : (x, instObj 126 dx) ∈ news) (hdx : (dx, D0 w T v) ∈ news) :
    ConL 10 w 360 [.ref x, .bytes #[97, 98] t] news (fun r n' => r = .bool true ∧ news = n') := by
  unfold ConL
  intro p loose mean mg mb dp un gd cn cs a ccd A₀ h₀ L m s Q E B F X N TT hk hd hu hret
  refine wpAny_call ?_
  refine' code_defS0 B F X N TT ?kA ?k6 ?k7 ?k8 ?k9 ?kB ?_ hk ?c2 ?c3 ?c4 ?c5
  case kA => exact rfl
  case k6 => k_dflt k_is
  case k7 => k_dflt k_is
  case k8 => ktr_room
  case k9 => exact BindsTo.of_eq rfl
  case kB => exact locs rfl
  case c2 => exact rfl
  case c3 => exact rfl
  case c4 => exact rfl
  case c5 => decide
  intro g' L' h' FG' F' N' B' X' T' D'
  (try dsimp only)
  (try k_lift B')
  (try k_fold)
  k_steps

  exact hret _ _ _ _ ⟨rfl, rfl⟩ (by assumption) (by assumption)

theorem bas1 (w : World) {x dx : Addr} {T : Nat → Tok} {v : Int} {t : Tok} {news : Led} (hx : (x, instObj 187 dx) ∈ news) (hdx : (dx, D1 w T v) ∈ news) :
    ConL 10 w 360 [.ref x, .str (Str.ofString "1") t] news (fun r n' => r = .bool true ∧ news = n') := by
  unfold ConL
  intro p loose mean mg mb dp un gd cn cs a ccd A₀ h₀ L m s Q E B F X N TT hk hd hu hret
  refine wpAny_call ?_
  refine' code_defS0 B F X N TT ?kA ?k6 ?k7 ?k8 ?k9 ?kB ?_ hk ?c2 ?c3 ?c4 ?c5
  case kA => exact rfl
  case k6 => k_dflt k_is
  case k7 => k_dflt k_is
  case k8 => ktr_room
  case k9 => exact BindsTo.of_eq rfl
  case kB => exact locs rfl
  case c2 => exact rfl
  case c3 => exact rfl
  case c4 => exact rfl
  case c5 => decide
  intro g' L' h' FG' F' N' B' X' T' D'
  (try dsimp only)
  (try k_lift B')
  (try k_fold)
  k_steps

  exact hret _ _ _ _ ⟨rfl, rfl⟩ (by assumption) (by assumption)

theorem ban1 (w : World) {x dx : Addr} {T : Nat → Tok} {v : Int} {t : Tok} {news : Led} (hx : (x, instObj 187 dx) ∈ news) (hdx : (dx, D1 w T v) ∈ news) :
    ConL 10 w 360 [.ref x, .none] news (fun r n' => r = .bool true ∧ news = n') := by
  unfold ConL
  intro p loose mean mg mb dp un gd cn cs a ccd A₀ h₀ L m s Q E B F X N TT hk hd hu hret
  refine wpAny_call ?_
  refine' code_defS0 B F X N TT ?kA ?k6 ?k7 ?k8 ?k9 ?kB ?_ hk ?c2 ?c3 ?c4 ?c5
  case kA => exact rfl
  case k6 => k_dflt k_is
  case k7 => k_dflt k_is
  case k8 => ktr_room
  case k9 => exact BindsTo.of_eq rfl
  case kB => exact locs rfl
  case c2 => exact rfl
  case c3 => exact rfl
  case c4 => exact rfl
  case c5 => decide
  intro g' L' h' FG' F' N' B' X' T' D'
  (try dsimp only)
  (try k_lift B')
  (try k_fold)
  k_steps

  exact hret _ _ _ _ ⟨rfl, rfl⟩ (by assumption) (by assumption)

theorem bal1 (w : World) {x dx : Addr} {T : Nat → Tok} {v : Int} {t : Tok} {news : Led} (hx : (x, instObj 187 dx) ∈ news) (hdx : (dx, D1 w T v) ∈ news) :
    ConL 10 w 360 [.ref x, .ref 306] news (fun r n' => r = .bool true ∧ news = n') := by
  unfold ConL
  intro p loose mean mg mb dp un gd cn cs a ccd A₀ h₀ L m s Q E B F X N TT hk hd hu hret
  refine wpAny_call ?_
  refine' code_defS0 B F X N TT ?kA ?k6 ?k7 ?k8 ?k9 ?kB ?_ hk ?c2 ?c3 ?c4 ?c5
  case kA => exact rfl
  case k6 => k_dflt k_is
  case k7 => k_dflt k_is
  case k8 => ktr_room
  case k9 => exact BindsTo.of_eq rfl
  case kB => exact locs rfl
  case c2 => exact rfl
  case c3 => exact rfl
  case c4 => exact rfl
  case c5 => decide
  intro g' L' h' FG' F' N' B' X' T' D'
  (try dsimp only)
  (try k_lift B')
  (try k_fold)
  k_steps

  exact hret _ _ _ _ ⟨rfl, rfl⟩ (by assumption) (by assumption)

theorem bae1 (w : World) {x dx : Addr} {T : Nat → Tok} {v : Int} {t : Tok} {news : Led} (hx : (x, instObj 187 dx) ∈ news) (hdx : (dx, D1 w T v) ∈ news) :
    ConL 10 w 360 [.ref x, .bytes #[] t] news (fun r n' => r = .bool true ∧ news = n') := by
  unfold ConL
  intro p loose mean mg mb dp un gd cn cs a ccd A₀ h₀ L m s Q E B F X N TT hk hd hu hret
  refine wpAny_call ?_
  refine' code_defS0 B F X N TT ?kA ?k6 ?k7 ?k8 ?k9 ?kB ?_ hk ?c2 ?c3 ?c4 ?c5
  case kA => exact rfl
  case k6 => k_dflt k_is
  case k7 => k_dflt k_is
  case k8 => ktr_room
  case k9 => exact BindsTo.of_eq rfl
  case kB => exact locs rfl
  case c2 => exact rfl
  case c3 => exact rfl
  case c4 => exact rfl
  case c5 => decide
  intro g' L' h' FG' F' N' B' X' T' D'
  (try dsimp only)
  (try k_lift B')
  (try k_fold)
  k_steps

  exact hret _ _ _ _ ⟨rfl, rfl⟩ (by assumption) (by assumption)

theorem bat1 (w : World) {x dx : Addr} {T : Nat → Tok} {v : Int} {t : Tok} {news : Led} (hx : (x, instObj 187 dx) ∈ news) (hdx : (dx, D1 w T v) ∈ news) :
    ConL 10 w 360 [.ref x, .bytes #[97, 98] t] news (fun r n' => r = .bool true ∧ news = n') := by
  unfold ConL
  intro p loose mean mg mb dp un gd cn cs a ccd A₀ h₀ L m s Q E B F X N TT hk hd hu hret
  refine wpAny_call ?_
  refine' code_defS0 B F X N TT ?kA ?k6 ?k7 ?k8 ?k9 ?kB ?_ hk ?c2 ?c3 ?c4 ?c5
  case kA => exact rfl
  case k6 => k_dflt k_is
  case k7 => k_dflt k_is
  case k8 => ktr_room
  case k9 => exact BindsTo.of_eq rfl
  case kB => exact locs rfl
  case c2 => exact rfl
  case c3 => exact rfl
  case c4 => exact rfl
  case c5 => decide
  intro g' L' h' FG' F' N' B' X' T' D'
  (try dsimp only)
  (try k_lift B')
  (try k_fold)
  k_steps

  exact hret _ _ _ _ ⟨rfl, rfl⟩ (by assumption) (by assumption)

theorem bas2 (w : World) {x dx : Addr} {T : Nat → Tok} {v : Int} {t : Tok} {news : Led} (hx : (x, instObj 276 dx) ∈ news) (hdx : (dx, D2 w T v) ∈ news) :
    ConL 10 w 360 [.ref x, .str (Str.ofString "1") t] news (fun r n' => r = .bool true ∧ news = n') := by
  unfold ConL
  intro p loose mean mg mb dp un gd cn cs a ccd A₀ h₀ L m s Q E B F X N TT hk hd hu hret
  refine wpAny_call ?_
  refine' code_defS0 B F X N TT ?kA ?k6 ?k7 ?k8 ?k9 ?kB ?_ hk ?c2 ?c3 ?c4 ?c5
  case kA => exact rfl
  case k6 => k_dflt k_is
  case k7 => k_dflt k_is
  case k8 => ktr_room
  case k9 => exact BindsTo.of_eq rfl
  case kB => exact locs rfl
  case c2 => exact rfl
  case c3 => exact rfl
  case c4 => exact rfl
  case c5 => decide
  intro g' L' h' FG' F' N' B' X' T' D'
  (try dsimp only)
  (try k_lift B')
  (try k_fold)
  k_steps

  exact hret _ _ _ _ ⟨rfl, rfl⟩ (by assumption) (by assumption)

theorem ban2 (w : World) {x dx : Addr} {T : Nat → Tok} {v : Int} {t : Tok} {news : Led} (hx : (x, instObj 276 dx) ∈ news) (hdx : (dx, D2 w T v) ∈ news) :
    ConL 10 w 360 [.ref x, .none] news (fun r n' => r = .bool true ∧ news = n') := by
  unfold ConL
  intro p loose mean mg mb dp un gd cn cs a ccd A₀ h₀ L m s Q E B F X N TT hk hd hu hret
  refine wpAny_call ?_
  refine' code_defS0 B F X N TT ?kA ?k6 ?k7 ?k8 ?k9 ?kB ?_ hk ?c2 ?c3 ?c4 ?c5
  case kA => exact rfl
  case k6 => k_dflt k_is
  case k7 => k_dflt k_is
  case k8 => ktr_room
  case k9 => exact BindsTo.of_eq rfl
  case kB => exact locs rfl
  case c2 => exact rfl
  case c3 => exact rfl
  case c4 => exact rfl
  case c5 => decide
  intro g' L' h' FG' F' N' B' X' T' D'
  (try dsimp only)
  (try k_lift B')
  (try k_fold)
  k_steps

  exact hret _ _ _ _ ⟨rfl, rfl⟩ (by assumption) (by assumption)

theorem bal2 (w : World) {x dx : Addr} {T : Nat → Tok} {v : Int} {t : Tok} {news : Led} (hx : (x, instObj 276 dx) ∈ news) (hdx : (dx, D2 w T v) ∈ news) :
    ConL 10 w 360 [.ref x, .ref 306] news (fun r n' => r = .bool true ∧ news = n') := by
  unfold ConL
  intro p loose mean mg mb dp un gd cn cs a ccd A₀ h₀ L m s Q E B F X N TT hk hd hu hret
  refine wpAny_call ?_
  refine' code_defS0 B F X N TT ?kA ?k6 ?k7 ?k8 ?k9 ?kB ?_ hk ?c2 ?c3 ?c4 ?c5
  case kA => exact rfl
  case k6 => k_dflt k_is
  case k7 => k_dflt k_is
  case k8 => ktr_room
  case k9 => exact BindsTo.of_eq rfl
  case kB => exact locs rfl
  case c2 => exact rfl
  case c3 => exact rfl
  case c4 => exact rfl
  case c5 => decide
  intro g' L' h' FG' F' N' B' X' T' D'
  (try dsimp only)
  (try k_lift B')
  (try k_fold)
  k_steps

  exact hret _ _ _ _ ⟨rfl, rfl⟩ (by assumption) (by assumption)

theorem bae2 (w : World) {x dx : Addr} {T : Nat → Tok} {v : Int} {t : Tok} {news : Led} (hx : (x, instObj 276 dx) ∈ news) (hdx : (dx, D2 w T v) ∈ news) :
    ConL 10 w 360 [.ref x, .bytes #[] t] news (fun r n' => r = .bool true ∧ news = n') := by
  unfold ConL
  intro p loose mean mg mb dp un gd cn cs a ccd A₀ h₀ L m s Q E B F X N TT hk hd hu hret
  refine wpAny_call ?_
  refine' code_defS0 B F X N TT ?kA ?k6 ?k7 ?k8 ?k9 ?kB ?_ hk ?c2 ?c3 ?c4 ?c5
  case kA => exact rfl
  case k6 => k_dflt k_is
  case k7 => k_dflt k_is
  case k8 => ktr_room
  case k9 => exact BindsTo.of_eq rfl
  case kB => exact locs rfl
  case c2 => exact rfl
  case c3 => exact rfl
  case c4 => exact rfl
  case c5 => decide
  intro g' L' h' FG' F' N' B' X' T' D'
  (try dsimp only)
  (try k_lift B')
  (try k_fold)
  k_steps

  exact hret _ _ _ _ ⟨rfl, rfl⟩ (by assumption) (by assumption)

theorem bat2 (w : World) {x dx : Addr} {T : Nat → Tok} {v : Int} {t : Tok} {news : Led} (hx : (x, instObj 276 dx) ∈ news) (hdx : (dx, D2 w T v) ∈ news) :
    ConL 10 w 360 [.ref x, .bytes #[97, 98] t] news (fun r n' => r = .bool true ∧ news = n') := by
  unfold ConL
  intro p loose mean mg mb dp un gd cn cs a ccd A₀ h₀ L m s Q E B F X N TT hk hd hu hret
  refine wpAny_call ?_
  refine' code_defS0 B F X N TT ?kA ?k6 ?k7 ?k8 ?k9 ?kB ?_ hk ?c2 ?c3 ?c4 ?c5
  case kA => exact rfl
  case k6 => k_dflt k_is
  case k7 => k_dflt k_is
  case k8 => ktr_room
  case k9 => exact BindsTo.of_eq rfl
  case kB => exact locs rfl
  case c2 => exact rfl
  case c3 => exact rfl
  case c4 => exact rfl
  case c5 => decide
  intro g' L' h' FG' F' N' B' X' T' D'
  (try dsimp only)
  (try k_lift B')
  (try k_fold)
  k_steps

  exact hret _ _ _ _ ⟨rfl, rfl⟩ (by assumption) (by assumption)

end Mine
-- part CM
namespace Mine
local macro_rules | `(tactic| k_room) => `(tactic| ktr_room)
local macro_rules | `(tactic| k_all) => `(tactic| assumption)
theorem allLt_mem {d : Addr} : ∀ {l : Led}, AllLt d l → ∀ p ∈ l, p.1 < d
  | [], _, _, h => nomatch h
  | _ :: _, x, p, h => by
    rcases List.mem_cons.mp h with rfl | h
    · exact x.1
    · exact allLt_mem x.2 p h
theorem ne_of_allLt {d : Addr} {l : Led} (h : AllLt d l) : ∀ p ∈ l, p.1 ≠ d := fun p hp => Nat.ne_of_lt (allLt_mem h p hp)
local macro_rules | `(tactic| k_all) => `(tactic| exact ne_of_allLt (by assumption))
theorem news_at2 {h₀ h : Heap} {L x d : Addr} {i o o' : Obj} {rest news : Led} (N : News h₀ L h ((x, i) :: (d, o) :: rest)) (e : o = o') (hs : ∀ p ∈ news, p ∈ rest) : News h₀ L h ((x, i) :: (d, o') :: news) := by
  subst e
  intro p hp
  rcases List.mem_cons.mp hp with rfl | hp
  · exact N _ (.head _)
  · rcases List.mem_cons.mp hp with rfl | hp
    · exact N _ (.tail _ (.head _))
    · exact N _ (.tail _ (.tail _ (hs _ hp)))
/-- the tokens of a dict's keys -/
def toks8 (a b c d e f g h : Tok) : Nat → Tok := fun i => match i with | 0 => a | 1 => b | 2 => c | 3 => d | 4 => e | 5 => f | 6 => g | _ => h

abbrev E0 (w : World) (T : Nat → Tok) (f0 f1 f2 f3 f4 f5 f6 f7 : Bool) : Obj := dictOf [ent w "test_failed" (T 0) f0, ent w "test_failed_this_operation_cycle" (T 1) f1, ent w "pending" (T 2) f2, ent w "confirmed" (T 3) f3, ent w "test_not_completed_since_last_clear" (T 4) f4, ent w "test_failed_since_last_clear" (T 5) f5, ent w "test_not_completed_this_operation_cycle" (T 6) f6, ent w "warning_indicator_requested" (T 7) f7] 8

theorem mkz0 (w : World) {news : Led} :
    Con 6 w 126 [] news (fun r n' => ∃ x dx T, r = .ref x ∧ n' = (x, instObj 126 dx) :: (dx, D0 w T 0) :: news ∧ (∀ p ∈ news, p.1 < dx) ∧ dx < x) := by
  unfold Con
  intro p loose mean mg mb dp un gd cn cs a ccd cl outer A₀ base h₀ L m s Q E B F X N TT hk hd hu hret
  k_dflt (refine' call_cls ?k1 ?k2 ?k3 ?k4 ?k5 ?k6 ?_; (case k1 => k_asm); (case k2 => k_asm); (case k3 => k_asm); (case k4 => k_is); (case k5 => k_is); (case k6 => k_is); k_whole)
  intro x1 d1 h1 F1 N1 l1 l2
  replace l1 := allLt_of l1
  have l3 := ltN l2
  k_dflt (refine' code_def (binds := [(Str.ofString "self", Value.ref x1), (Str.ofString "test_failed", Value.bool false), (Str.ofString "test_failed_this_operation_cycle", Value.bool false), (Str.ofString "pending", Value.bool false), (Str.ofString "confirmed", Value.bool false), (Str.ofString "test_not_completed_since_last_clear", Value.bool false), (Str.ofString "test_failed_since_last_clear", Value.bool false), (Str.ofString "test_not_completed_this_operation_cycle", Value.bool false), (Str.ofString "warning_indicator_requested", Value.bool false)]) ?k1 ?k2 ?k3 ?k4 ?k5 ?kA ?kF ?kK ?k6 ?k7 ?k8 ?k9 ?kB ?_ ?c2 ?c3 ?c4 ?c5; (case kA => exact rfl); (case kF => exact rfl); (case kK => assumption); (case k1 => k_asm); (case k2 => exact F1); (case k3 => k_asm); (case k4 => exact N1); (case k5 => k_asm); (case k6 => k_is); (case k7 => k_is); (case k8 => ktr_room); (case k9 => exact binds_K (by k_in) rfl (by k_is) rfl rfl rfl); (case c5 => decide); (case kB => exact locs rfl); (case c2 => exact rfl); (case c3 => exact rfl); (case c4 => exact rfl); k_whole; intro g' L' h' FG' F' N' B' X' T'; (try dsimp only); (try k_lift B'); (try k_fold))
  clear F N F1 N1
  k_steps
  (with_reducible rename News _ _ _ _ => N9)
  exact hret _ _ _ _ ⟨_, _, toks8 _ _ _ _ _ _ _ _, rfl, rfl, allLt_mem l1, l2⟩ (by assumption) (news_at2 N9 rfl (fun _ hp => hp))

theorem mkn0 (w : World) {f0 f1 f2 f3 f4 f5 f6 f7 : Bool} {news : Led} :
    Con 6 w 126 [.bool f0, .bool f1, .bool f2, .bool f3, .bool f4, .bool f5, .bool f6, .bool f7] news (fun r n' => ∃ x dx T, r = .ref x ∧ n' = (x, instObj 126 dx) :: (dx, E0 w T f0 f1 f2 f3 f4 f5 f6 f7) :: news ∧ (∀ p ∈ news, p.1 < dx) ∧ dx < x) := by
  unfold Con
  intro p loose mean mg mb dp un gd cn cs a ccd cl outer A₀ base h₀ L m s Q E B F X N TT hk hd hu hret
  k_dflt (refine' call_cls ?k1 ?k2 ?k3 ?k4 ?k5 ?k6 ?_; (case k1 => k_asm); (case k2 => k_asm); (case k3 => k_asm); (case k4 => k_is); (case k5 => k_is); (case k6 => k_is); k_whole)
  intro x1 d1 h1 F1 N1 l1 l2
  replace l1 := allLt_of l1
  have l3 := ltN l2
  k_dflt (refine' code_def (binds := [(Str.ofString "self", Value.ref x1), (Str.ofString "test_failed", Value.bool f0), (Str.ofString "test_failed_this_operation_cycle", Value.bool f1), (Str.ofString "pending", Value.bool f2), (Str.ofString "confirmed", Value.bool f3), (Str.ofString "test_not_completed_since_last_clear", Value.bool f4), (Str.ofString "test_failed_since_last_clear", Value.bool f5), (Str.ofString "test_not_completed_this_operation_cycle", Value.bool f6), (Str.ofString "warning_indicator_requested", Value.bool f7)]) ?k1 ?k2 ?k3 ?k4 ?k5 ?kA ?kF ?kK ?k6 ?k7 ?k8 ?k9 ?kB ?_ ?c2 ?c3 ?c4 ?c5; (case kA => exact rfl); (case kF => exact rfl); (case kK => assumption); (case k1 => k_asm); (case k2 => exact F1); (case k3 => k_asm); (case k4 => exact N1); (case k5 => k_asm); (case k6 => k_is); (case k7 => k_is); (case k8 => ktr_room); (case k9 => exact binds_K (by k_in) rfl (by k_is) rfl rfl rfl); (case c5 => decide); (case kB => exact locs rfl); (case c2 => exact rfl); (case c3 => exact rfl); (case c4 => exact rfl); k_whole; intro g' L' h' FG' F' N' B' X' T'; (try dsimp only); (try k_lift B'); (try k_fold))
  clear F N F1 N1
  k_steps
  (with_reducible rename News _ _ _ _ => N9)
  exact hret _ _ _ _ ⟨_, _, toks8 _ _ _ _ _ _ _ _, rfl, rfl, allLt_mem l1, l2⟩ (by assumption) (news_at2 N9 rfl (fun _ hp => hp))

abbrev E1 (w : World) (T : Nat → Tok) (f0 f1 f2 : Bool) : Obj := dictOf [ent w "maintenance_only" (T 0) f0, ent w "check_at_next_exit" (T 1) f1, ent w "check_immediately" (T 2) f2] 3

theorem mkz1 (w : World) {news : Led} :
    Con 6 w 187 [] news (fun r n' => ∃ x dx T, r = .ref x ∧ n' = (x, instObj 187 dx) :: (dx, D1 w T 0) :: news ∧ (∀ p ∈ news, p.1 < dx) ∧ dx < x) := by
  unfold Con
  intro p loose mean mg mb dp un gd cn cs a ccd cl outer A₀ base h₀ L m s Q E B F X N TT hk hd hu hret
  k_dflt (refine' call_cls ?k1 ?k2 ?k3 ?k4 ?k5 ?k6 ?_; (case k1 => k_asm); (case k2 => k_asm); (case k3 => k_asm); (case k4 => k_is); (case k5 => k_is); (case k6 => k_is); k_whole)
  intro x1 d1 h1 F1 N1 l1 l2
  replace l1 := allLt_of l1
  have l3 := ltN l2
  k_dflt (refine' code_def (binds := [(Str.ofString "self", Value.ref x1), (Str.ofString "maintenance_only", Value.bool false), (Str.ofString "check_at_next_exit", Value.bool false), (Str.ofString "check_immediately", Value.bool false)]) ?k1 ?k2 ?k3 ?k4 ?k5 ?kA ?kF ?kK ?k6 ?k7 ?k8 ?k9 ?kB ?_ ?c2 ?c3 ?c4 ?c5; (case kA => exact rfl); (case kF => exact rfl); (case kK => assumption); (case k1 => k_asm); (case k2 => exact F1); (case k3 => k_asm); (case k4 => exact N1); (case k5 => k_asm); (case k6 => k_is); (case k7 => k_is); (case k8 => ktr_room); (case k9 => exact binds_K (by k_in) rfl (by k_is) rfl rfl rfl); (case c5 => decide); (case kB => exact locs rfl); (case c2 => exact rfl); (case c3 => exact rfl); (case c4 => exact rfl); k_whole; intro g' L' h' FG' F' N' B' X' T'; (try dsimp only); (try k_lift B'); (try k_fold))
  clear F N F1 N1
  k_steps
  (with_reducible rename News _ _ _ _ => N9)
  exact hret _ _ _ _ ⟨_, _, toks8 _ _ _ 0 0 0 0 0, rfl, rfl, allLt_mem l1, l2⟩ (by assumption) (news_at2 N9 rfl (fun _ hp => hp))

theorem mkn1 (w : World) {f0 f1 f2 : Bool} {news : Led} :
    Con 6 w 187 [.bool f0, .bool f1, .bool f2] news (fun r n' => ∃ x dx T, r = .ref x ∧ n' = (x, instObj 187 dx) :: (dx, E1 w T f0 f1 f2) :: news ∧ (∀ p ∈ news, p.1 < dx) ∧ dx < x) := by
  unfold Con
  intro p loose mean mg mb dp un gd cn cs a ccd cl outer A₀ base h₀ L m s Q E B F X N TT hk hd hu hret
  k_dflt (refine' call_cls ?k1 ?k2 ?k3 ?k4 ?k5 ?k6 ?_; (case k1 => k_asm); (case k2 => k_asm); (case k3 => k_asm); (case k4 => k_is); (case k5 => k_is); (case k6 => k_is); k_whole)
  intro x1 d1 h1 F1 N1 l1 l2
  replace l1 := allLt_of l1
  have l3 := ltN l2
  k_dflt (refine' code_def (binds := [(Str.ofString "self", Value.ref x1), (Str.ofString "maintenance_only", Value.bool f0), (Str.ofString "check_at_next_exit", Value.bool f1), (Str.ofString "check_immediately", Value.bool f2)]) ?k1 ?k2 ?k3 ?k4 ?k5 ?kA ?kF ?kK ?k6 ?k7 ?k8 ?k9 ?kB ?_ ?c2 ?c3 ?c4 ?c5; (case kA => exact rfl); (case kF => exact rfl); (case kK => assumption); (case k1 => k_asm); (case k2 => exact F1); (case k3 => k_asm); (case k4 => exact N1); (case k5 => k_asm); (case k6 => k_is); (case k7 => k_is); (case k8 => ktr_room); (case k9 => exact binds_K (by k_in) rfl (by k_is) rfl rfl rfl); (case c5 => decide); (case kB => exact locs rfl); (case c2 => exact rfl); (case c3 => exact rfl); (case c4 => exact rfl); k_whole; intro g' L' h' FG' F' N' B' X' T'; (try dsimp only); (try k_lift B'); (try k_fold))
  clear F N F1 N1
  k_steps
  (with_reducible rename News _ _ _ _ => N9)
  exact hret _ _ _ _ ⟨_, _, toks8 _ _ _ 0 0 0 0 0, rfl, rfl, allLt_mem l1, l2⟩ (by assumption) (news_at2 N9 rfl (fun _ hp => hp))

abbrev E2 (w : World) (T : Nat → Tok) (f0 f1 f2 f3 f4 : Bool) : Obj := dictOf [ent w "class0" (T 0) f0, ent w "class1" (T 1) f1, ent w "class2" (T 2) f2, ent w "class3" (T 3) f3, ent w "class4" (T 4) f4] 5

theorem mkz2 (w : World) {news : Led} :
    Con 6 w 276 [] news (fun r n' => ∃ x dx T, r = .ref x ∧ n' = (x, instObj 276 dx) :: (dx, D2 w T 0) :: news ∧ (∀ p ∈ news, p.1 < dx) ∧ dx < x) := by
  unfold Con
  intro p loose mean mg mb dp un gd cn cs a ccd cl outer A₀ base h₀ L m s Q E B F X N TT hk hd hu hret
  k_dflt (refine' call_cls ?k1 ?k2 ?k3 ?k4 ?k5 ?k6 ?_; (case k1 => k_asm); (case k2 => k_asm); (case k3 => k_asm); (case k4 => k_is); (case k5 => k_is); (case k6 => k_is); k_whole)
  intro x1 d1 h1 F1 N1 l1 l2
  replace l1 := allLt_of l1
  have l3 := ltN l2
  k_dflt (refine' code_def (binds := [(Str.ofString "self", Value.ref x1), (Str.ofString "class0", Value.bool false), (Str.ofString "class1", Value.bool false), (Str.ofString "class2", Value.bool false), (Str.ofString "class3", Value.bool false), (Str.ofString "class4", Value.bool false)]) ?k1 ?k2 ?k3 ?k4 ?k5 ?kA ?kF ?kK ?k6 ?k7 ?k8 ?k9 ?kB ?_ ?c2 ?c3 ?c4 ?c5; (case kA => exact rfl); (case kF => exact rfl); (case kK => assumption); (case k1 => k_asm); (case k2 => exact F1); (case k3 => k_asm); (case k4 => exact N1); (case k5 => k_asm); (case k6 => k_is); (case k7 => k_is); (case k8 => ktr_room); (case k9 => exact binds_K (by k_in) rfl (by k_is) rfl rfl rfl); (case c5 => decide); (case kB => exact locs rfl); (case c2 => exact rfl); (case c3 => exact rfl); (case c4 => exact rfl); k_whole; intro g' L' h' FG' F' N' B' X' T'; (try dsimp only); (try k_lift B'); (try k_fold))
  clear F N F1 N1
  k_steps
  (with_reducible rename News _ _ _ _ => N9)
  exact hret _ _ _ _ ⟨_, _, toks8 _ _ _ _ _ 0 0 0, rfl, rfl, allLt_mem l1, l2⟩ (by assumption) (news_at2 N9 rfl (fun _ hp => hp))

theorem mkn2 (w : World) {f0 f1 f2 f3 f4 : Bool} {news : Led} :
    Con 6 w 276 [.bool f0, .bool f1, .bool f2, .bool f3, .bool f4] news (fun r n' => ∃ x dx T, r = .ref x ∧ n' = (x, instObj 276 dx) :: (dx, E2 w T f0 f1 f2 f3 f4) :: news ∧ (∀ p ∈ news, p.1 < dx) ∧ dx < x) := by
  unfold Con
  intro p loose mean mg mb dp un gd cn cs a ccd cl outer A₀ base h₀ L m s Q E B F X N TT hk hd hu hret
  k_dflt (refine' call_cls ?k1 ?k2 ?k3 ?k4 ?k5 ?k6 ?_; (case k1 => k_asm); (case k2 => k_asm); (case k3 => k_asm); (case k4 => k_is); (case k5 => k_is); (case k6 => k_is); k_whole)
  intro x1 d1 h1 F1 N1 l1 l2
  replace l1 := allLt_of l1
  have l3 := ltN l2
  k_dflt (refine' code_def (binds := [(Str.ofString "self", Value.ref x1), (Str.ofString "class0", Value.bool f0), (Str.ofString "class1", Value.bool f1), (Str.ofString "class2", Value.bool f2), (Str.ofString "class3", Value.bool f3), (Str.ofString "class4", Value.bool f4)]) ?k1 ?k2 ?k3 ?k4 ?k5 ?kA ?kF ?kK ?k6 ?k7 ?k8 ?k9 ?kB ?_ ?c2 ?c3 ?c4 ?c5; (case kA => exact rfl); (case kF => exact rfl); (case kK => assumption); (case k1 => k_asm); (case k2 => exact F1); (case k3 => k_asm); (case k4 => exact N1); (case k5 => k_asm); (case k6 => k_is); (case k7 => k_is); (case k8 => ktr_room); (case k9 => exact binds_K (by k_in) rfl (by k_is) rfl rfl rfl); (case c5 => decide); (case kB => exact locs rfl); (case c2 => exact rfl); (case c3 => exact rfl); (case c4 => exact rfl); k_whole; intro g' L' h' FG' F' N' B' X' T'; (try dsimp only); (try k_lift B'); (try k_fold))
  clear F N F1 N1
  k_steps
  (with_reducible rename News _ _ _ _ => N9)
  exact hret _ _ _ _ ⟨_, _, toks8 _ _ _ _ _ 0 0 0, rfl, rfl, allLt_mem l1, l2⟩ (by assumption) (news_at2 N9 rfl (fun _ hp => hp))

end Mine
-- part C4
namespace Mine
local macro_rules | `(tactic| k_room) => `(tactic| ktr_room)
local macro_rules | `(tactic| walk_at "subscriptTail Name Constant ref int") => `(tactic| (k_here; (with_unfolding_all refine' item_litK ?k1 ?k2 ?k3 ?k4 ?_ ?k6; (case k1 => is_list); (case k2 => decide); (case k3 => decide); (case k4 => rfl); (case k6 => with_unfolding_all rfl); k_whole)))
local macro_rules | `(tactic| walk_at "exec Assign cons ListComp") => `(tactic| (k_here; lcg_look; lcg_calm; k_dflt (refine LCg.Assign_ListComp_U (F₀ := by k_asm) (by rfl) (by with_unfolding_all rfl) (by rfl) (by decide) (by rfl) (by decide) (by rfl) (by rfl) (by rfl) ?_); k_dflt lcg_toSrc))
local macro_rules | `(tactic| walk_at "CompSrc") => `(tactic| (k_here; k_dflt (first
  | (refine LCg.CompSrc.range (by rfl) (by k_asm) (by k_asm) (by assumption) (by first | decide | rfl) (by first | rfl | decide) (by first | size_fits | exact Nat.le_of_ble_eq_true rfl) ?_; intro g'; lcg_lit))))
local macro_rules | `(tactic| walk_at "CompEnd") => `(tactic| (refine LCg.CompEnd.intro (by assumption) (by assumption) _ (fun _ h => h) (by assumption) (by lcg_src) ?_))
theorem fb0 {v : Int} (h0 : 0 ≤ v) (h1 : v < 256) : ∀ p : Fin 8, ((v.fdiv (2 ^ p.val)).fmod 2 == 1) = bit v p.val :=
  fin_all (N := 256) (P := fun v => ∀ p : Fin 8, ((v.fdiv (2 ^ p.val)).fmod 2 == 1) = bit v p.val) (by decide +kernel) v h0 h1

theorem fb0_0 {v : Int} (h0 : 0 ≤ v) (h1 : v < 256) : ((v.fdiv (2 ^ 0)).fmod 2 == 1) = bit v 0 := (fb0 h0 h1 ⟨0, by decide⟩)
theorem fb0_1 {v : Int} (h0 : 0 ≤ v) (h1 : v < 256) : ((v.fdiv (2 ^ 1)).fmod 2 == 1) = bit v 1 := (fb0 h0 h1 ⟨1, by decide⟩)
theorem fb0_2 {v : Int} (h0 : 0 ≤ v) (h1 : v < 256) : ((v.fdiv (2 ^ 2)).fmod 2 == 1) = bit v 2 := (fb0 h0 h1 ⟨2, by decide⟩)
theorem fb0_3 {v : Int} (h0 : 0 ≤ v) (h1 : v < 256) : ((v.fdiv (2 ^ 3)).fmod 2 == 1) = bit v 3 := (fb0 h0 h1 ⟨3, by decide⟩)
theorem fb0_4 {v : Int} (h0 : 0 ≤ v) (h1 : v < 256) : ((v.fdiv (2 ^ 4)).fmod 2 == 1) = bit v 4 := (fb0 h0 h1 ⟨4, by decide⟩)
theorem fb0_5 {v : Int} (h0 : 0 ≤ v) (h1 : v < 256) : ((v.fdiv (2 ^ 5)).fmod 2 == 1) = bit v 5 := (fb0 h0 h1 ⟨5, by decide⟩)
theorem fb0_6 {v : Int} (h0 : 0 ≤ v) (h1 : v < 256) : ((v.fdiv (2 ^ 6)).fmod 2 == 1) = bit v 6 := (fb0 h0 h1 ⟨6, by decide⟩)
theorem fb0_7 {v : Int} (h0 : 0 ≤ v) (h1 : v < 256) : ((v.fdiv (2 ^ 7)).fmod 2 == 1) = bit v 7 := (fb0 h0 h1 ⟨7, by decide⟩)
local macro_rules | `(tactic| walk_at "call ref") => `(tactic| (k_here; (with_reducible show wpAny _ _ (call (Value.ref 126) _) _ _ _); k_dflt (refine' Con.use (mkn0 _) ?kB ?kF ?kX ?kN ?kT ?kK ?kd ?ku ?_; (case kB => k_asm); (case kF => k_asm); (case kX => k_asm); (case kN => k_asm); (case kT => k_asm); (case kK => exact rfl); (case kd => ktr_room); (case ku => ktr_units); k_whole); intro v9 n9 h9 tk9 e9 F9 N9; obtain ⟨x9, d9, T9, e9, e8, l1, l2⟩ := e9; subst e9; subst e8; (try k_lt l1); (try k_lt2 l2); (try k_sweep); (try dsimp only)))
theorem D0_of (w : World) {T : Nat → Tok} {v : Int} {b0 b1 b2 b3 b4 b5 b6 b7 : Bool} (e0 : b0 = bit v 0) (e1 : b1 = bit v 1) (e2 : b2 = bit v 2) (e3 : b3 = bit v 3) (e4 : b4 = bit v 4) (e5 : b5 = bit v 5) (e6 : b6 = bit v 6) (e7 : b7 = bit v 7) : E0 w T b0 b1 b2 b3 b4 b5 b6 b7 = D0 w T v := by
  subst e0 e1 e2 e3 e4 e5 e6 e7
  rfl

theorem bu0 (w : World) {v : Int} {t1 t2 : Tok} {news : Led} (h0 : 0 ≤ v) (h1 : v < 256) :
    Con 12 w 346 [.int 0 t1, .int v t2] news (fun r n' => ∃ x dx T, r = .ref x ∧ n' = (x, instObj 126 dx) :: (dx, D0 w T v) :: news ∧ (∀ p ∈ news, p.1 < dx) ∧ dx < x) := by
  unfold Con
  intro p loose mean mg mb dp un gd cn cs a ccd cl outer A₀ base h₀ L m s Q E B F X N TT hk hd hu hret
  refine wpAny_call ?_
  k_dflt (refine' code_defC ?k1 ?k2 ?k3 ?k4 ?k5 ?kA ?kF ?kK ?k6 ?k7 ?k8 ?k9 ?kB ?kD ?_ ?c2 ?c3 ?c4; (case kA => exact rfl); (case kF => exact rfl); (case kK => assumption); (case k1 => k_asm); (case k2 => k_asm); (case k3 => k_asm); (case k4 => k_asm); (case k5 => k_asm); (case k6 => k_is); (case k7 => k_is); (case k8 => ktr_room); (case k9 => exact BindsTo.of_eq rfl); (case kB => exact rfl); (case kD => decide +kernel); (case c2 => exact rfl); (case c3 => exact rfl); (case c4 => exact rfl); k_whole; intro g' L' h' tk' cells' FG' F' N' Y' B' X' T' l1; (try k_lt l1); k_cells Y'; (try simp only [List.cons_append, List.nil_append] at N'); (try dsimp only); (try k_lift B'); (try k_fold))
  k_steps
  (with_reducible rename News _ _ _ _ => N9)
  refine hret _ _ _ _ ⟨_, _, _, rfl, rfl, ?_, ?_⟩ (by assumption) (news_at2 N9 (D0_of w (fb0_0 h0 h1) (fb0_1 h0 h1) (fb0_2 h0 h1) (fb0_3 h0 h1) (fb0_4 h0 h1) (fb0_5 h0 h1) (fb0_6 h0 h1) (fb0_7 h0 h1)) (fun _ hp => .tail _ (.tail _ hp)))
  · (with_reducible rename _ ∧ _ ∧ AllLt _ _ => q9)
    exact allLt_mem q9.2.2
  · assumption

theorem fb1_5 {v : Int} (h0 : 0 ≤ v) (h1 : v < 256) : ((v.fdiv (2 ^ 5)).fmod 2 == 1) = bit (v - v % 32) 5 := ((fb0 h0 h1 ⟨5, by decide⟩).trans (bit1 h0 h1 ⟨5, by decide⟩ (by decide)).symm)
theorem fb1_6 {v : Int} (h0 : 0 ≤ v) (h1 : v < 256) : ((v.fdiv (2 ^ 6)).fmod 2 == 1) = bit (v - v % 32) 6 := ((fb0 h0 h1 ⟨6, by decide⟩).trans (bit1 h0 h1 ⟨6, by decide⟩ (by decide)).symm)
theorem fb1_7 {v : Int} (h0 : 0 ≤ v) (h1 : v < 256) : ((v.fdiv (2 ^ 7)).fmod 2 == 1) = bit (v - v % 32) 7 := ((fb0 h0 h1 ⟨7, by decide⟩).trans (bit1 h0 h1 ⟨7, by decide⟩ (by decide)).symm)
local macro_rules | `(tactic| walk_at "call ref") => `(tactic| (k_here; (with_reducible show wpAny _ _ (call (Value.ref 187) _) _ _ _); k_dflt (refine' Con.use (mkn1 _) ?kB ?kF ?kX ?kN ?kT ?kK ?kd ?ku ?_; (case kB => k_asm); (case kF => k_asm); (case kX => k_asm); (case kN => k_asm); (case kT => k_asm); (case kK => exact rfl); (case kd => ktr_room); (case ku => ktr_units); k_whole); intro v9 n9 h9 tk9 e9 F9 N9; obtain ⟨x9, d9, T9, e9, e8, l1, l2⟩ := e9; subst e9; subst e8; (try k_lt l1); (try k_lt2 l2); (try k_sweep); (try dsimp only)))
theorem D1_of (w : World) {T : Nat → Tok} {v : Int} {b0 b1 b2 : Bool} (e0 : b0 = bit v 5) (e1 : b1 = bit v 6) (e2 : b2 = bit v 7) : E1 w T b0 b1 b2 = D1 w T v := by
  subst e0 e1 e2
  rfl

theorem bu1 (w : World) {v : Int} {t1 t2 : Tok} {news : Led} (h0 : 0 ≤ v) (h1 : v < 256) :
    Con 12 w 346 [.int 1 t1, .int v t2] news (fun r n' => ∃ x dx T, r = .ref x ∧ n' = (x, instObj 187 dx) :: (dx, D1 w T (v - v % 32)) :: news ∧ (∀ p ∈ news, p.1 < dx) ∧ dx < x) := by
  unfold Con
  intro p loose mean mg mb dp un gd cn cs a ccd cl outer A₀ base h₀ L m s Q E B F X N TT hk hd hu hret
  refine wpAny_call ?_
  k_dflt (refine' code_defC ?k1 ?k2 ?k3 ?k4 ?k5 ?kA ?kF ?kK ?k6 ?k7 ?k8 ?k9 ?kB ?kD ?_ ?c2 ?c3 ?c4; (case kA => exact rfl); (case kF => exact rfl); (case kK => assumption); (case k1 => k_asm); (case k2 => k_asm); (case k3 => k_asm); (case k4 => k_asm); (case k5 => k_asm); (case k6 => k_is); (case k7 => k_is); (case k8 => ktr_room); (case k9 => exact BindsTo.of_eq rfl); (case kB => exact rfl); (case kD => decide +kernel); (case c2 => exact rfl); (case c3 => exact rfl); (case c4 => exact rfl); k_whole; intro g' L' h' tk' cells' FG' F' N' Y' B' X' T' l1; (try k_lt l1); k_cells Y'; (try simp only [List.cons_append, List.nil_append] at N'); (try dsimp only); (try k_lift B'); (try k_fold))
  k_steps
  (with_reducible rename News _ _ _ _ => N9)
  refine hret _ _ _ _ ⟨_, _, _, rfl, rfl, ?_, ?_⟩ (by assumption) (news_at2 N9 (D1_of w (fb1_5 h0 h1) (fb1_6 h0 h1) (fb1_7 h0 h1)) (fun _ hp => .tail _ (.tail _ hp)))
  · (with_reducible rename _ ∧ _ ∧ AllLt _ _ => q9)
    exact allLt_mem q9.2.2
  · assumption

theorem fb2_0 {v : Int} (h0 : 0 ≤ v) (h1 : v < 256) : ((v.fdiv (2 ^ 0)).fmod 2 == 1) = bit (v % 32) 0 := ((fb0 h0 h1 ⟨0, by decide⟩).trans (bit2 h0 h1 ⟨0, by decide⟩ (by decide)).symm)
theorem fb2_1 {v : Int} (h0 : 0 ≤ v) (h1 : v < 256) : ((v.fdiv (2 ^ 1)).fmod 2 == 1) = bit (v % 32) 1 := ((fb0 h0 h1 ⟨1, by decide⟩).trans (bit2 h0 h1 ⟨1, by decide⟩ (by decide)).symm)
theorem fb2_2 {v : Int} (h0 : 0 ≤ v) (h1 : v < 256) : ((v.fdiv (2 ^ 2)).fmod 2 == 1) = bit (v % 32) 2 := ((fb0 h0 h1 ⟨2, by decide⟩).trans (bit2 h0 h1 ⟨2, by decide⟩ (by decide)).symm)
theorem fb2_3 {v : Int} (h0 : 0 ≤ v) (h1 : v < 256) : ((v.fdiv (2 ^ 3)).fmod 2 == 1) = bit (v % 32) 3 := ((fb0 h0 h1 ⟨3, by decide⟩).trans (bit2 h0 h1 ⟨3, by decide⟩ (by decide)).symm)
theorem fb2_4 {v : Int} (h0 : 0 ≤ v) (h1 : v < 256) : ((v.fdiv (2 ^ 4)).fmod 2 == 1) = bit (v % 32) 4 := ((fb0 h0 h1 ⟨4, by decide⟩).trans (bit2 h0 h1 ⟨4, by decide⟩ (by decide)).symm)
local macro_rules | `(tactic| walk_at "call ref") => `(tactic| (k_here; (with_reducible show wpAny _ _ (call (Value.ref 276) _) _ _ _); k_dflt (refine' Con.use (mkn2 _) ?kB ?kF ?kX ?kN ?kT ?kK ?kd ?ku ?_; (case kB => k_asm); (case kF => k_asm); (case kX => k_asm); (case kN => k_asm); (case kT => k_asm); (case kK => exact rfl); (case kd => ktr_room); (case ku => ktr_units); k_whole); intro v9 n9 h9 tk9 e9 F9 N9; obtain ⟨x9, d9, T9, e9, e8, l1, l2⟩ := e9; subst e9; subst e8; (try k_lt l1); (try k_lt2 l2); (try k_sweep); (try dsimp only)))
theorem D2_of (w : World) {T : Nat → Tok} {v : Int} {b0 b1 b2 b3 b4 : Bool} (e0 : b0 = bit v 0) (e1 : b1 = bit v 1) (e2 : b2 = bit v 2) (e3 : b3 = bit v 3) (e4 : b4 = bit v 4) : E2 w T b0 b1 b2 b3 b4 = D2 w T v := by
  subst e0 e1 e2 e3 e4
  rfl

theorem bu2 (w : World) {v : Int} {t1 t2 : Tok} {news : Led} (h0 : 0 ≤ v) (h1 : v < 256) :
    Con 12 w 346 [.int 2 t1, .int v t2] news (fun r n' => ∃ x dx T, r = .ref x ∧ n' = (x, instObj 276 dx) :: (dx, D2 w T (v % 32)) :: news ∧ (∀ p ∈ news, p.1 < dx) ∧ dx < x) := by
  unfold Con
  intro p loose mean mg mb dp un gd cn cs a ccd cl outer A₀ base h₀ L m s Q E B F X N TT hk hd hu hret
  refine wpAny_call ?_
  k_dflt (refine' code_defC ?k1 ?k2 ?k3 ?k4 ?k5 ?kA ?kF ?kK ?k6 ?k7 ?k8 ?k9 ?kB ?kD ?_ ?c2 ?c3 ?c4; (case kA => exact rfl); (case kF => exact rfl); (case kK => assumption); (case k1 => k_asm); (case k2 => k_asm); (case k3 => k_asm); (case k4 => k_asm); (case k5 => k_asm); (case k6 => k_is); (case k7 => k_is); (case k8 => ktr_room); (case k9 => exact BindsTo.of_eq rfl); (case kB => exact rfl); (case kD => decide +kernel); (case c2 => exact rfl); (case c3 => exact rfl); (case c4 => exact rfl); k_whole; intro g' L' h' tk' cells' FG' F' N' Y' B' X' T' l1; (try k_lt l1); k_cells Y'; (try simp only [List.cons_append, List.nil_append] at N'); (try dsimp only); (try k_lift B'); (try k_fold))
  k_steps
  (with_reducible rename News _ _ _ _ => N9)
  refine hret _ _ _ _ ⟨_, _, _, rfl, rfl, ?_, ?_⟩ (by assumption) (news_at2 N9 (D2_of w (fb2_0 h0 h1) (fb2_1 h0 h1) (fb2_2 h0 h1) (fb2_3 h0 h1) (fb2_4 h0 h1)) (fun _ hp => .tail _ (.tail _ hp)))
  · (with_reducible rename _ ∧ _ ∧ AllLt _ _ => q9)
    exact allLt_mem q9.2.2
  · assumption

end Mine
-- part C5
namespace Mine
local macro_rules | `(tactic| k_room) => `(tactic| ktr_room)
local macro_rules | `(tactic| k_all) => `(tactic| assumption)
local macro_rules | `(tactic| k_all) => `(tactic| exact ne_of_allLt (by assumption))

local macro_rules | `(tactic| walk_at "call ref") => `(tactic| (k_here; (with_reducible show wpAny _ _ (call (Value.ref 126) _) _ _ _); k_dflt (refine' Con.use (mkz0 _) ?kB ?kF ?kX ?kN ?kT ?kK ?kd ?ku ?_; (case kB => k_asm); (case kF => k_asm); (case kX => k_asm); (case kN => k_asm); (case kT => k_asm); (case kK => exact rfl); (case kd => ktr_room); (case ku => ktr_units); k_whole); intro v9 n9 h9 tk9 e9 F9 N9; obtain ⟨x9, d9, T9, e9, e8, l1, l2⟩ := e9; subst e9; subst e8; (try k_lt l1); (try k_lt2 l2); (try k_sweep); (try dsimp only)))
local macro_rules | `(tactic| walk_at "call ref") => `(tactic| (k_here; (with_reducible show wpAny _ _ (call (Value.ref 113) [Value.ref _, Value.int _ _]) _ _ _); k_dflt (refine' Con.use (sbi0 _ ?c0 ?c1 ?c2 ?c3) ?kB ?kF ?kX ?kN ?kT ?kK ?kd ?ku ?_; (case kB => k_asm); (case kF => k_asm); (case kX => k_asm); (case kN => k_asm); (case kT => k_asm); (case kK => exact rfl); (case c2 => k_mem); (case c0 => assumption); (case c1 => assumption); (case c3 => (refine' Upd.tail ?ua (Upd.head ?ub); (case ua => k_ne); (case ub => k_all))); (case kd => ktr_room); (case ku => ktr_units); k_whole); intro v9 n9 h9 tk9 e9 F9 N9; obtain ⟨e9, e8⟩ := e9; subst e9; subst e8; (try k_sweep); (try dsimp only)))
theorem fri0 (w : World) {v : Int} {t1 t2 : Tok} {news : Led} (h0 : 0 ≤ v) (h1 : v < 256) :
    Con 14 w 341 [.int 0 t1, .int v t2] news (fun r n' => ∃ x dx T, r = .ref x ∧ n' = (x, instObj 126 dx) :: (dx, D0 w T v) :: news ∧ (∀ p ∈ news, p.1 < dx) ∧ dx < x) := by
  unfold Con
  intro p loose mean mg mb dp un gd cn cs a ccd cl outer A₀ base h₀ L m s Q E B F X N TT hk hd hu hret
  refine wpAny_call ?_
  k_dflt cell_enter
  k_steps
  (with_reducible rename News _ _ _ _ => N9)
  refine hret _ _ _ _ ⟨_, _, _, rfl, rfl, ?_, ?_⟩ (by assumption) (news_at2 N9 rfl (fun _ hp => .tail _ hp))
  · (with_reducible rename _ ∧ AllLt _ _ => q9)
    exact allLt_mem q9.2
  · assumption

local macro_rules | `(tactic| walk_at "call ref") => `(tactic| (k_here; (with_reducible show wpAny _ _ (call (Value.ref 113) [Value.ref _, Value.bytes _ _]) _ _ _); k_dflt (refine' Con.use (sbb0 _ ?c0 ?c1 ?c2 ?c3) ?kB ?kF ?kX ?kN ?kT ?kK ?kd ?ku ?_; (case kB => k_asm); (case kF => k_asm); (case kX => k_asm); (case kN => k_asm); (case kT => k_asm); (case kK => exact rfl); (case c2 => k_mem); (case c0 => assumption); (case c1 => assumption); (case c3 => (refine' Upd.tail ?ua (Upd.head ?ub); (case ua => k_ne); (case ub => k_all))); (case kd => ktr_room); (case ku => ktr_units); k_whole); intro v9 n9 h9 tk9 e9 F9 N9; obtain ⟨e9, e8⟩ := e9; subst e9; subst e8; (try k_sweep); (try dsimp only)))
theorem frb0 (w : World) {v : Int} {t1 t2 : Tok} {news : Led} (h0 : 0 ≤ v) (h1 : v < 256) :
    Con 14 w 341 [.int 0 t1, .bytes #[v.toNat.toUInt8] t2] news (fun r n' => ∃ x dx T, r = .ref x ∧ n' = (x, instObj 126 dx) :: (dx, D0 w T v) :: news ∧ (∀ p ∈ news, p.1 < dx) ∧ dx < x) := by
  unfold Con
  intro p loose mean mg mb dp un gd cn cs a ccd cl outer A₀ base h₀ L m s Q E B F X N TT hk hd hu hret
  refine wpAny_call ?_
  k_dflt cell_enter
  k_steps
  (with_reducible rename News _ _ _ _ => N9)
  refine hret _ _ _ _ ⟨_, _, _, rfl, rfl, ?_, ?_⟩ (by assumption) (news_at2 N9 rfl (fun _ hp => .tail _ hp))
  · (with_reducible rename _ ∧ AllLt _ _ => q9)
    exact allLt_mem q9.2
  · assumption

local macro_rules | `(tactic| walk_at "call ref") => `(tactic| (k_here; (with_reducible show wpAny _ _ (call (Value.ref 187) _) _ _ _); k_dflt (refine' Con.use (mkz1 _) ?kB ?kF ?kX ?kN ?kT ?kK ?kd ?ku ?_; (case kB => k_asm); (case kF => k_asm); (case kX => k_asm); (case kN => k_asm); (case kT => k_asm); (case kK => exact rfl); (case kd => ktr_room); (case ku => ktr_units); k_whole); intro v9 n9 h9 tk9 e9 F9 N9; obtain ⟨x9, d9, T9, e9, e8, l1, l2⟩ := e9; subst e9; subst e8; (try k_lt l1); (try k_lt2 l2); (try k_sweep); (try dsimp only)))
local macro_rules | `(tactic| walk_at "call ref") => `(tactic| (k_here; (with_reducible show wpAny _ _ (call (Value.ref 166) [Value.ref _, Value.int _ _]) _ _ _); k_dflt (refine' Con.use (sbi1 _ ?c0 ?c1 ?c2 ?c3) ?kB ?kF ?kX ?kN ?kT ?kK ?kd ?ku ?_; (case kB => k_asm); (case kF => k_asm); (case kX => k_asm); (case kN => k_asm); (case kT => k_asm); (case kK => exact rfl); (case c2 => k_mem); (case c0 => assumption); (case c1 => assumption); (case c3 => (refine' Upd.tail ?ua (Upd.head ?ub); (case ua => k_ne); (case ub => k_all))); (case kd => ktr_room); (case ku => ktr_units); k_whole); intro v9 n9 h9 tk9 e9 F9 N9; obtain ⟨e9, e8⟩ := e9; subst e9; subst e8; (try k_sweep); (try dsimp only)))
theorem fri1 (w : World) {v : Int} {t1 t2 : Tok} {news : Led} (h0 : 0 ≤ v) (h1 : v < 256) :
    Con 14 w 341 [.int 1 t1, .int v t2] news (fun r n' => ∃ x dx T, r = .ref x ∧ n' = (x, instObj 187 dx) :: (dx, D1 w T (v - v % 32)) :: news ∧ (∀ p ∈ news, p.1 < dx) ∧ dx < x) := by
  unfold Con
  intro p loose mean mg mb dp un gd cn cs a ccd cl outer A₀ base h₀ L m s Q E B F X N TT hk hd hu hret
  refine wpAny_call ?_
  k_dflt cell_enter
  k_steps
  (with_reducible rename News _ _ _ _ => N9)
  refine hret _ _ _ _ ⟨_, _, _, rfl, rfl, ?_, ?_⟩ (by assumption) (news_at2 N9 rfl (fun _ hp => .tail _ hp))
  · (with_reducible rename _ ∧ AllLt _ _ => q9)
    exact allLt_mem q9.2
  · assumption

local macro_rules | `(tactic| walk_at "call ref") => `(tactic| (k_here; (with_reducible show wpAny _ _ (call (Value.ref 166) [Value.ref _, Value.bytes _ _]) _ _ _); k_dflt (refine' Con.use (sbb1 _ ?c0 ?c1 ?c2 ?c3) ?kB ?kF ?kX ?kN ?kT ?kK ?kd ?ku ?_; (case kB => k_asm); (case kF => k_asm); (case kX => k_asm); (case kN => k_asm); (case kT => k_asm); (case kK => exact rfl); (case c2 => k_mem); (case c0 => assumption); (case c1 => assumption); (case c3 => (refine' Upd.tail ?ua (Upd.head ?ub); (case ua => k_ne); (case ub => k_all))); (case kd => ktr_room); (case ku => ktr_units); k_whole); intro v9 n9 h9 tk9 e9 F9 N9; obtain ⟨e9, e8⟩ := e9; subst e9; subst e8; (try k_sweep); (try dsimp only)))
theorem frb1 (w : World) {v : Int} {t1 t2 : Tok} {news : Led} (h0 : 0 ≤ v) (h1 : v < 256) :
    Con 14 w 341 [.int 1 t1, .bytes #[v.toNat.toUInt8] t2] news (fun r n' => ∃ x dx T, r = .ref x ∧ n' = (x, instObj 187 dx) :: (dx, D1 w T (v - v % 32)) :: news ∧ (∀ p ∈ news, p.1 < dx) ∧ dx < x) := by
  unfold Con
  intro p loose mean mg mb dp un gd cn cs a ccd cl outer A₀ base h₀ L m s Q E B F X N TT hk hd hu hret
  refine wpAny_call ?_
  k_dflt cell_enter
  k_steps
  (with_reducible rename News _ _ _ _ => N9)
  refine hret _ _ _ _ ⟨_, _, _, rfl, rfl, ?_, ?_⟩ (by assumption) (news_at2 N9 rfl (fun _ hp => .tail _ hp))
  · (with_reducible rename _ ∧ AllLt _ _ => q9)
    exact allLt_mem q9.2
  · assumption

local macro_rules | `(tactic| walk_at "call ref") => `(tactic| (k_here; (with_reducible show wpAny _ _ (call (Value.ref 276) _) _ _ _); k_dflt (refine' Con.use (mkz2 _) ?kB ?kF ?kX ?kN ?kT ?kK ?kd ?ku ?_; (case kB => k_asm); (case kF => k_asm); (case kX => k_asm); (case kN => k_asm); (case kT => k_asm); (case kK => exact rfl); (case kd => ktr_room); (case ku => ktr_units); k_whole); intro v9 n9 h9 tk9 e9 F9 N9; obtain ⟨x9, d9, T9, e9, e8, l1, l2⟩ := e9; subst e9; subst e8; (try k_lt l1); (try k_lt2 l2); (try k_sweep); (try dsimp only)))
local macro_rules | `(tactic| walk_at "call ref") => `(tactic| (k_here; (with_reducible show wpAny _ _ (call (Value.ref 255) [Value.ref _, Value.int _ _]) _ _ _); k_dflt (refine' Con.use (sbi2 _ ?c0 ?c1 ?c2 ?c3) ?kB ?kF ?kX ?kN ?kT ?kK ?kd ?ku ?_; (case kB => k_asm); (case kF => k_asm); (case kX => k_asm); (case kN => k_asm); (case kT => k_asm); (case kK => exact rfl); (case c2 => k_mem); (case c0 => assumption); (case c1 => assumption); (case c3 => (refine' Upd.tail ?ua (Upd.head ?ub); (case ua => k_ne); (case ub => k_all))); (case kd => ktr_room); (case ku => ktr_units); k_whole); intro v9 n9 h9 tk9 e9 F9 N9; obtain ⟨e9, e8⟩ := e9; subst e9; subst e8; (try k_sweep); (try dsimp only)))
theorem fri2 (w : World) {v : Int} {t1 t2 : Tok} {news : Led} (h0 : 0 ≤ v) (h1 : v < 256) :
    Con 14 w 341 [.int 2 t1, .int v t2] news (fun r n' => ∃ x dx T, r = .ref x ∧ n' = (x, instObj 276 dx) :: (dx, D2 w T (v % 32)) :: news ∧ (∀ p ∈ news, p.1 < dx) ∧ dx < x) := by
  unfold Con
  intro p loose mean mg mb dp un gd cn cs a ccd cl outer A₀ base h₀ L m s Q E B F X N TT hk hd hu hret
  refine wpAny_call ?_
  k_dflt cell_enter
  k_steps
  (with_reducible rename News _ _ _ _ => N9)
  refine hret _ _ _ _ ⟨_, _, _, rfl, rfl, ?_, ?_⟩ (by assumption) (news_at2 N9 rfl (fun _ hp => .tail _ hp))
  · (with_reducible rename _ ∧ AllLt _ _ => q9)
    exact allLt_mem q9.2
  · assumption

local macro_rules | `(tactic| walk_at "call ref") => `(tactic| (k_here; (with_reducible show wpAny _ _ (call (Value.ref 255) [Value.ref _, Value.bytes _ _]) _ _ _); k_dflt (refine' Con.use (sbb2 _ ?c0 ?c1 ?c2 ?c3) ?kB ?kF ?kX ?kN ?kT ?kK ?kd ?ku ?_; (case kB => k_asm); (case kF => k_asm); (case kX => k_asm); (case kN => k_asm); (case kT => k_asm); (case kK => exact rfl); (case c2 => k_mem); (case c0 => assumption); (case c1 => assumption); (case c3 => (refine' Upd.tail ?ua (Upd.head ?ub); (case ua => k_ne); (case ub => k_all))); (case kd => ktr_room); (case ku => ktr_units); k_whole); intro v9 n9 h9 tk9 e9 F9 N9; obtain ⟨e9, e8⟩ := e9; subst e9; subst e8; (try k_sweep); (try dsimp only)))
theorem frb2 (w : World) {v : Int} {t1 t2 : Tok} {news : Led} (h0 : 0 ≤ v) (h1 : v < 256) :
    Con 14 w 341 [.int 2 t1, .bytes #[v.toNat.toUInt8] t2] news (fun r n' => ∃ x dx T, r = .ref x ∧ n' = (x, instObj 276 dx) :: (dx, D2 w T (v % 32)) :: news ∧ (∀ p ∈ news, p.1 < dx) ∧ dx < x) := by
  unfold Con
  intro p loose mean mg mb dp un gd cn cs a ccd cl outer A₀ base h₀ L m s Q E B F X N TT hk hd hu hret
  refine wpAny_call ?_
  k_dflt cell_enter
  k_steps
  (with_reducible rename News _ _ _ _ => N9)
  refine hret _ _ _ _ ⟨_, _, _, rfl, rfl, ?_, ?_⟩ (by assumption) (news_at2 N9 rfl (fun _ hp => .tail _ hp))
  · (with_reducible rename _ ∧ AllLt _ _ => q9)
    exact allLt_mem q9.2
  · assumption

end Mine
-- part LT
namespace Mine
section
variable {prog : Program} {w : World} {A : Around} {E : Value → Shared → Prop} {s : Shared} {h₀ : Heap} {L : Addr} {m : Str → Option Value} {env : Env}
theorem tuple_st {ax I : Addr} {its : Array Value} (ht : h₀.IsTuple ax its) : ∀ i (h h' : Heap) (o : Obj) (nw : List (Addr × Obj)), (h.IsTupleIter I ax i ∧ h.IsTuple ax its) → h.get? I = some o → h'.get? I = some o → (∀ b o, h₀.get? b = some o → h'.get? b = some o) → News h₀ L h' nw → True → (h'.IsTupleIter I ax i ∧ h'.IsTuple ax its) :=
  fun i h h' o nw st e e' k N _ => ⟨by obtain ⟨o', q, r⟩ := st.1; rw [e] at q; cases q; exact ⟨o, e', r⟩, by obtain ⟨o', q, r⟩ := ht; exact ⟨o', k _ _ q, r⟩⟩

def SrcT (prog : Program) (w : World) (A : Around) (h₀ : Heap) (L : Addr) (m : Str → Option Value) (env : Env) (elt : PySem.Expr) (x : Str) (scope : Scope) (cl : List (Str × Addr)) (Fin : Shared → List Value → List (Addr × Obj) → Prop) (xv : Value) (s₁ : Shared) : Prop :=
  ∃ ax its news, xv = .ref ax ∧ A.handled = none ∧ Fr h₀ L s₁.heap m ∧ News h₀ L s₁.heap news ∧ h₀.IsTuple ax its ∧ its.size ≤ sizeLine ∧
    ∀ s₂ : Shared, (∃ h, s₂ = { s₁ with heap := h }) → LCg.CompRest prog w A h₀ L m env elt x scope cl s₂ (fun _ => True) (fun i v => its[i]? = some v) (Fin s₂) its.size 0 [] news
theorem SrcT.mk {elt : PySem.Expr} {x : Str} {scope : Scope} {cl : List (Str × Addr)} {Fin : Shared → List Value → List (Addr × Obj) → Prop} {ax : Addr} {its : Array Value} {news : List (Addr × Obj)} {s₁ : Shared}
    (hh : A.handled = none) (F : Fr h₀ L s₁.heap m) (N : News h₀ L s₁.heap news) (hl : h₀.IsTuple ax its) (hsz : its.size ≤ sizeLine)
    (h : ∀ g, LCg.CompRest prog w A h₀ L m env elt x scope cl { s₁ with heap := g } (fun _ => True) (fun i v => its[i]? = some v) (Fin { s₁ with heap := g }) its.size 0 [] news) :
    SrcT prog w A h₀ L m env elt x scope cl Fin (.ref ax) s₁ := ⟨ax, its, news, rfl, hh, F, N, hl, hsz, fun _ ⟨g, e⟩ => e ▸ h g⟩

theorem ListComp_tuple {elt iter : PySem.Expr} {x : Str} {px : Pos} {scope : Scope} {cl : List (Str × Addr)} {pos : Pos} {Q : Value → Shared → Prop} (F₀ : Fr h₀ L s.heap m)
    (hclos : closureFor scope env = pure cl) (hcell : ∀ y ∈ scope.names, y.2 ≠ .cell) (hkind : scope.kind = .function)
    (hnames : ∀ y ∈ scope.names, y.2 = .local → scope.names.lookup y.1 = some .local) (hx : scope.names.lookup x = some .local)
    (h : wpAny (model prog w) A (eval iter env) (SrcT prog w A h₀ L m env elt x scope cl (fun s₂ => LCg.FinE h₀ L m s₂ Q)) E s)
    (hs : ∀ x, foldedSetIterable iter env x = pure x := by intro _; rfl) :
    wpAny (model prog w) A (eval (.ListComp elt [⟨.Name x px, iter, [], 0⟩] scope pos) env) Q E s := by
  rw [eval_ListComp]
  refine wpAny_comprehension_free (use := none) rfl hs hclos hkind hnames (wpAny_mono h (fun xv s₁ h₁ => ?_) fun _ _ e => e)
  obtain ⟨ax, its, news, rfl, hh, F, N, S, hsz, R⟩ := h₁
  have hl : s₁.heap.IsTuple ax its := by obtain ⟨o, q, r⟩ := S; exact ⟨o, F.keep _ _ q, r⟩
  have hlt : ax < s₁.heap.objs.size := by obtain ⟨_, e, _⟩ := hl; exact Heap.lt_size e
  refine wpAny_pyIter_tuple hl ?_
  have up : ∀ b o, s₁.heap.get? b = some o → (s₁.heap.push { cls := .type "tuple_iterator", data := .fields #[.ref ax, .int 0 0] }).get? b = some o := fun b o e => Heap.get?_push_of_some _ e
  refine LCg.block_U (Walks.tuple hh s₁.heap.objs.size ax (Nat.ne_of_lt hlt) its) hsz (fun i h st => by obtain ⟨o, e, _⟩ := st.1; exact ⟨o, e⟩) (tuple_st S) hcell hkind hx ⟨⟨_, Heap.get?_push_size _ rfl, rfl, rfl⟩, hl.at (up ax)⟩ (fun b hb => ?_)
    (F.keeps up) (N.grown up) (Nat.ne_of_lt F.ns.lt) (next_is_new F) (fun p hp => Nat.ne_of_lt (Heap.lt_size (N p hp).1)) trivial (R _ ⟨_, rfl⟩) ?_
  · show b < (s₁.heap.push _).objs.size
    rw [Heap.size_push]
    rcases List.mem_cons.mp hb with rfl | hb
    · exact Nat.lt_succ_self _
    · rw [List.mem_singleton.mp hb]; exact Nat.lt_succ_of_lt hlt
  · intro D C h tk m' ys news' F' N' o1 hn hC₀ hD₀ hCL hDL hCD offC fin
    refine ⟨m', hn, fun h'' hs'' => fin D h'' tk (F'.change hs'' hCL hC₀) (fun p hp => ?_) o1⟩
    refine ⟨hs''.extBut _ _ ?_ (N' p hp).1, (N' p hp).2⟩
    rcases List.mem_cons.mp hp with rfl | hp
    · exact Ne.symm hCD
    · exact offC p hp
end
end Mine
-- part C6
namespace Mine
local macro_rules | `(tactic| k_room) => `(tactic| ktr_room)
local macro_rules | `(tactic| k_mem) => `(tactic| assumption)
local macro_rules | `(tactic| walk_at "eval IfExp") => `(tactic| with_reducible (first | refine ifexp_int ?_ | refine ifexp_bool ?_))
theorem ne_same {prog : Program} {w : World} {A : Around} {E : Value → Shared → Prop} {s : Shared} {a : Int} {t u : Tok} {Q : Value → Shared → Prop} (h : Q (.bool false) s) : wpAny (model prog w) A (compareOp .NotEq (.int a t) (.int a u)) Q E s :=
  ne_int (by rw [show (a != a) = false by simp]; exact h)
local macro_rules | `(tactic| walk_at "compareOp NotEq int int") => `(tactic| with_reducible refine ne_same ?_)
theorem eq_same {prog : Program} {w : World} {A : Around} {E : Value → Shared → Prop} {s : Shared} {b : Bool} {Q : Value → Shared → Prop} (h : Q (.bool true) s) : wpAny (model prog w) A (compareOp .Eq (.bool b) (.bool b)) Q E s :=
  eq_bool (by rw [show (b == b) = true by simp]; exact h)
local macro_rules | `(tactic| walk_at "compareOp Eq bool bool") => `(tactic| with_reducible refine eq_same ?_)
local macro_rules | `(tactic| walk_at "call type:list") => `(tactic| (k_here; (with_reducible show wpAny _ _ (call (Value.type _) [Value.bytes _ _]) _ _ _); k_dflt (refine' list_byte ?F ?N ?hh ?h0 ?h1 ?_; (case F => k_asm); (case N => k_asm); (case hh => exact rfl); (case h0 => assumption); (case h1 => assumption)); intro D9 u9 c9 h9 tk9 F9 N9 l9; (try k_sweep); (try dsimp only)))
local macro_rules | `(tactic| walk_at "eval ListComp") => `(tactic| (k_here; k_dflt (refine ListComp_tuple (F₀ := by k_asm) (by rfl) (by decide) (by rfl) (by decide) (by rfl) ?_)))
theorem tupIn {K : Frag} {h₀ : Heap} {a : Addr} {od : Option Addr} {items : Array Value} {n : Nat} {sl : Array (Option Value)} (X : K.In h₀) (ho : K.lookup a = some ⟨.type "tuple", od, .seq items n, sl⟩) : h₀.IsTuple a items := ⟨_, X _ _ ho, rfl, n, rfl⟩
local macro_rules | `(tactic| walk_at "SrcT") => `(tactic| (k_here; k_dflt (refine' SrcT.mk ?hh ?F ?N ?l ?z ?_; (case hh => exact rfl); (case F => k_asm); (case N => k_asm); (case l => refine' tupIn ?X ?o; (case X => k_asm); (case o => k_is)); (case z => first | size_fits | exact Nat.le_of_ble_eq_true rfl); intro g'; lcg_lit)))
local macro_rules | `(tactic| walk_at "CompEnd") => `(tactic| (refine LCg.CompEnd.intro (by assumption) (by assumption) _ (fun _ h => h) (by assumption) (by first | exact True.intro | lcg_src) ?_))
local macro_rules | `(tactic| k_all) => `(tactic| assumption)
local macro_rules | `(tactic| k_all) => `(tactic| exact ne_of_allLt (by assumption))

theorem fbit {v : Int} (h0 : 0 ≤ v) (h1 : v < 256) : ∀ p : Fin 8, ((v.fdiv (2 ^ p.val)).fmod 2 == 1) = bit v p.val :=
  fin_all (N := 256) (P := fun v => ∀ p : Fin 8, ((v.fdiv (2 ^ p.val)).fmod 2 == 1) = bit v p.val) (by decide +kernel) v h0 h1
theorem news_at1 {h₀ h : Heap} {L d : Addr} {o o' : Obj} {rest news : Led} (N : News h₀ L h ((d, o) :: rest)) (e : o = o') (hs : ∀ p ∈ news, p ∈ rest) : News h₀ L h ((d, o') :: news) := by
  subst e
  intro p hp
  rcases List.mem_cons.mp hp with rfl | hp
  · exact N _ (.head _)
  · exact N _ (.tail _ (hs _ hp))

theorem lst0_of {v : Int} {b0 b1 b2 b3 b4 b5 b6 b7 : Bool} (e0 : b0 = bit v 0) (e1 : b1 = bit v 1) (e2 : b2 = bit v 2) (e3 : b3 = bit v 3) (e4 : b4 = bit v 4) (e5 : b5 = bit v 5) (e6 : b6 = bit v 6) (e7 : b7 = bit v 7) : LCg.lst [.bool b0, .bool b1, .bool b2, .bool b3, .bool b4, .bool b5, .bool b6, .bool b7] = LCg.lst [.bool (bit v 0), .bool (bit v 1), .bool (bit v 2), .bool (bit v 3), .bool (bit v 4), .bool (bit v 5), .bool (bit v 6), .bool (bit v 7)] := by
  subst e0 e1 e2 e3 e4 e5 e6 e7
  rfl
theorem bits0 (w : World) {v : Int} {t1 t2 : Tok} {news : Led} (h0 : 0 ≤ v) (h1 : v < 256) :
    Con 6 w 313 [.int v t1, .int 0 t2] news (fun r n' => ∃ D, r = .ref D ∧ n' = (D, LCg.lst [.bool (bit v 0), .bool (bit v 1), .bool (bit v 2), .bool (bit v 3), .bool (bit v 4), .bool (bit v 5), .bool (bit v 6), .bool (bit v 7)]) :: news) := by
  unfold Con
  intro p loose mean mg mb dp un gd cn cs a ccd cl outer A₀ base h₀ L m s Q E B F X N TT hk hd hu hret
  refine wpAny_call ?_
  k_dflt (refine' code_defC ?k1 ?k2 ?k3 ?k4 ?k5 ?kA ?kF ?kK ?k6 ?k7 ?k8 ?k9 ?kB ?kD ?_ ?c2 ?c3 ?c4; (case kA => exact rfl); (case kF => exact rfl); (case kK => assumption); (case k1 => k_asm); (case k2 => k_asm); (case k3 => k_asm); (case k4 => k_asm); (case k5 => k_asm); (case k6 => k_is); (case k7 => k_is); (case k8 => ktr_room); (case k9 => exact BindsTo.of_eq rfl); (case kB => exact rfl); (case kD => decide +kernel); (case c2 => exact rfl); (case c3 => exact rfl); (case c4 => exact rfl); k_whole; intro g' L' h' tk' cells' FG' F' N' Y' B' X' T' l1; (try k_lt l1); k_cells Y'; (try simp only [List.cons_append, List.nil_append] at N'); (try dsimp only); (try k_lift B'); (try k_fold))
  k_steps
  (with_reducible rename News _ _ _ _ => N9)
  exact hret _ _ _ _ ⟨_, rfl, rfl⟩ (by assumption) (news_at1 N9 (lst0_of (fbit h0 h1 ⟨0, by decide⟩) (fbit h0 h1 ⟨1, by decide⟩) (fbit h0 h1 ⟨2, by decide⟩) (fbit h0 h1 ⟨3, by decide⟩) (fbit h0 h1 ⟨4, by decide⟩) (fbit h0 h1 ⟨5, by decide⟩) (fbit h0 h1 ⟨6, by decide⟩) (fbit h0 h1 ⟨7, by decide⟩)) (fun _ hp => .tail _ hp))

local macro_rules | `(tactic| walk_at "call ref") => `(tactic| (k_here; (with_reducible show wpAny _ _ (call (Value.ref 313) _) _ _ _); k_dflt (refine' Con.use (bits0 _ ?c0 ?c1) ?kB ?kF ?kX ?kN ?kT ?kK ?kd ?ku ?_; (case kB => k_asm); (case kF => k_asm); (case kX => k_asm); (case kN => k_asm); (case kT => k_asm); (case kK => exact rfl); (case c0 => assumption); (case c1 => assumption); (case kd => ktr_room); (case ku => ktr_units); k_whole); intro v9 n9 h9 tk9 e9 F9 N9; obtain ⟨D9, e9, e8⟩ := e9; subst e9; subst e8; (try k_sweep); (try dsimp only)))
local macro_rules | `(tactic| walk_at "call ref") => `(tactic| (k_here; (with_reducible show wpAny _ _ (call (Value.ref 99) _) _ _ _); k_dflt (refine' Con.use (gbi0 _ ?c1 ?c2 ?c3) ?kB ?kF ?kX ?kN ?kT ?kK ?kd ?ku ?_; (case kB => k_asm); (case kF => k_asm); (case kX => k_asm); (case kN => k_asm); (case kT => k_asm); (case kK => exact rfl); (case c2 => k_mem); (case c3 => k_mem); (case c1 => assumption); (case kd => ktr_room); (case ku => ktr_units); k_whole); intro v9 n9 h9 tk9 e9 F9 N9; obtain ⟨⟨t9, e9⟩, e8⟩ := e9; subst e9; subst e8; (try k_sweep); (try dsimp only)))
local macro_rules | `(tactic| walk_at "call ref") => `(tactic| (k_here; (with_reducible show wpAny _ _ (call (Value.ref 106) _) _ _ _); k_dflt (refine' Con.use (gb0 _ ?c1 ?c2 ?c3) ?kB ?kF ?kX ?kN ?kT ?kK ?kd ?ku ?_; (case kB => k_asm); (case kF => k_asm); (case kX => k_asm); (case kN => k_asm); (case kT => k_asm); (case kK => exact rfl); (case c2 => k_mem); (case c3 => k_mem); (case c1 => assumption); (case kd => ktr_room); (case ku => ktr_units); k_whole); intro v9 n9 h9 tk9 e9 F9 N9; obtain ⟨⟨t9, e9⟩, e8⟩ := e9; subst e9; subst e8; (try k_sweep); (try dsimp only)))
theorem same0 (w : World) {x dx : Addr} {T : Nat → Tok} {v : Int} {t1 t2 : Tok} {news : Led} (hv : Ok 0 v) (hx : (x, instObj 126 dx) ∈ news) (hdx : (dx, D0 w T v) ∈ news) :
    Con 12 w 334 [.int 0 t1, .ref x, .int v t2] news (fun r n' => r = .bool true ∧ news = n') := by
  unfold Con
  intro p loose mean mg mb dp un gd cn cs a ccd cl outer A₀ base h₀ L m s Q E B F X N TT hk hd hu hret
  have v0 := hv.lo
  have v1 := hv.hi
  refine wpAny_call ?_
  k_dflt cell_enter
  k_steps
  (with_reducible rename News _ _ _ _ => N9)
  exact hret _ _ _ _ ⟨rfl, rfl⟩ (by assumption) (fun p hp => N9 p (by simp only [List.mem_cons]; simp [hp]))

theorem lst1_of {v : Int} {b0 b1 b2 : Bool} (e0 : b0 = bit v 5) (e1 : b1 = bit v 6) (e2 : b2 = bit v 7) : LCg.lst [.bool b0, .bool b1, .bool b2] = LCg.lst [.bool (bit v 5), .bool (bit v 6), .bool (bit v 7)] := by
  subst e0 e1 e2
  rfl
theorem bits1 (w : World) {v : Int} {t1 t2 : Tok} {news : Led} (h0 : 0 ≤ v) (h1 : v < 256) :
    Con 6 w 313 [.int v t1, .int 1 t2] news (fun r n' => ∃ D, r = .ref D ∧ n' = (D, LCg.lst [.bool (bit v 5), .bool (bit v 6), .bool (bit v 7)]) :: news) := by
  unfold Con
  intro p loose mean mg mb dp un gd cn cs a ccd cl outer A₀ base h₀ L m s Q E B F X N TT hk hd hu hret
  refine wpAny_call ?_
  k_dflt (refine' code_defC ?k1 ?k2 ?k3 ?k4 ?k5 ?kA ?kF ?kK ?k6 ?k7 ?k8 ?k9 ?kB ?kD ?_ ?c2 ?c3 ?c4; (case kA => exact rfl); (case kF => exact rfl); (case kK => assumption); (case k1 => k_asm); (case k2 => k_asm); (case k3 => k_asm); (case k4 => k_asm); (case k5 => k_asm); (case k6 => k_is); (case k7 => k_is); (case k8 => ktr_room); (case k9 => exact BindsTo.of_eq rfl); (case kB => exact rfl); (case kD => decide +kernel); (case c2 => exact rfl); (case c3 => exact rfl); (case c4 => exact rfl); k_whole; intro g' L' h' tk' cells' FG' F' N' Y' B' X' T' l1; (try k_lt l1); k_cells Y'; (try simp only [List.cons_append, List.nil_append] at N'); (try dsimp only); (try k_lift B'); (try k_fold))
  k_steps
  (with_reducible rename News _ _ _ _ => N9)
  exact hret _ _ _ _ ⟨_, rfl, rfl⟩ (by assumption) (news_at1 N9 (lst1_of (fbit h0 h1 ⟨5, by decide⟩) (fbit h0 h1 ⟨6, by decide⟩) (fbit h0 h1 ⟨7, by decide⟩)) (fun _ hp => .tail _ hp))

local macro_rules | `(tactic| walk_at "call ref") => `(tactic| (k_here; (with_reducible show wpAny _ _ (call (Value.ref 313) _) _ _ _); k_dflt (refine' Con.use (bits1 _ ?c0 ?c1) ?kB ?kF ?kX ?kN ?kT ?kK ?kd ?ku ?_; (case kB => k_asm); (case kF => k_asm); (case kX => k_asm); (case kN => k_asm); (case kT => k_asm); (case kK => exact rfl); (case c0 => assumption); (case c1 => assumption); (case kd => ktr_room); (case ku => ktr_units); k_whole); intro v9 n9 h9 tk9 e9 F9 N9; obtain ⟨D9, e9, e8⟩ := e9; subst e9; subst e8; (try k_sweep); (try dsimp only)))
local macro_rules | `(tactic| walk_at "call ref") => `(tactic| (k_here; (with_reducible show wpAny _ _ (call (Value.ref 152) _) _ _ _); k_dflt (refine' Con.use (gbi1 _ ?c1 ?c2 ?c3) ?kB ?kF ?kX ?kN ?kT ?kK ?kd ?ku ?_; (case kB => k_asm); (case kF => k_asm); (case kX => k_asm); (case kN => k_asm); (case kT => k_asm); (case kK => exact rfl); (case c2 => k_mem); (case c3 => k_mem); (case c1 => assumption); (case kd => ktr_room); (case ku => ktr_units); k_whole); intro v9 n9 h9 tk9 e9 F9 N9; obtain ⟨⟨t9, e9⟩, e8⟩ := e9; subst e9; subst e8; (try k_sweep); (try dsimp only)))
local macro_rules | `(tactic| walk_at "call ref") => `(tactic| (k_here; (with_reducible show wpAny _ _ (call (Value.ref 159) _) _ _ _); k_dflt (refine' Con.use (gb1 _ ?c1 ?c2 ?c3) ?kB ?kF ?kX ?kN ?kT ?kK ?kd ?ku ?_; (case kB => k_asm); (case kF => k_asm); (case kX => k_asm); (case kN => k_asm); (case kT => k_asm); (case kK => exact rfl); (case c2 => k_mem); (case c3 => k_mem); (case c1 => assumption); (case kd => ktr_room); (case ku => ktr_units); k_whole); intro v9 n9 h9 tk9 e9 F9 N9; obtain ⟨⟨t9, e9⟩, e8⟩ := e9; subst e9; subst e8; (try k_sweep); (try dsimp only)))
local macro_rules | `(tactic| walk_at "call ref") => `(tactic| (k_here; (with_reducible show wpAny _ _ (call (Value.ref 183) _) _ _ _); k_dflt (refine' Con.use (av1 _ ?c1 ?c2 ?c3) ?kB ?kF ?kX ?kN ?kT ?kK ?kd ?ku ?_; (case kB => k_asm); (case kF => k_asm); (case kX => k_asm); (case kN => k_asm); (case kT => k_asm); (case kK => exact rfl); (case c2 => k_mem); (case c3 => k_mem); (case c1 => assumption); (case kd => ktr_room); (case ku => ktr_units); k_whole); intro v9 n9 h9 tk9 e9 F9 N9; obtain ⟨e9, e8⟩ := e9; subst e9; subst e8; (try k_sweep); (try dsimp only)))
theorem same1 (w : World) {x dx : Addr} {T : Nat → Tok} {v : Int} {t1 t2 : Tok} {news : Led} (hv : Ok 1 v) (hx : (x, instObj 187 dx) ∈ news) (hdx : (dx, D1 w T v) ∈ news) :
    Con 12 w 334 [.int 1 t1, .ref x, .int v t2] news (fun r n' => r = .bool true ∧ news = n') := by
  unfold Con
  intro p loose mean mg mb dp un gd cn cs a ccd cl outer A₀ base h₀ L m s Q E B F X N TT hk hd hu hret
  have v0 := hv.lo
  have v1 := hv.hi
  refine wpAny_call ?_
  k_dflt cell_enter
  k_steps
  (with_reducible rename News _ _ _ _ => N9)
  exact hret _ _ _ _ ⟨rfl, rfl⟩ (by assumption) (fun p hp => N9 p (by simp only [List.mem_cons]; simp [hp]))

theorem lst2_of {v : Int} {b0 b1 b2 b3 b4 : Bool} (e0 : b0 = bit v 0) (e1 : b1 = bit v 1) (e2 : b2 = bit v 2) (e3 : b3 = bit v 3) (e4 : b4 = bit v 4) : LCg.lst [.bool b0, .bool b1, .bool b2, .bool b3, .bool b4] = LCg.lst [.bool (bit v 0), .bool (bit v 1), .bool (bit v 2), .bool (bit v 3), .bool (bit v 4)] := by
  subst e0 e1 e2 e3 e4
  rfl
theorem bits2 (w : World) {v : Int} {t1 t2 : Tok} {news : Led} (h0 : 0 ≤ v) (h1 : v < 256) :
    Con 6 w 313 [.int v t1, .int 2 t2] news (fun r n' => ∃ D, r = .ref D ∧ n' = (D, LCg.lst [.bool (bit v 0), .bool (bit v 1), .bool (bit v 2), .bool (bit v 3), .bool (bit v 4)]) :: news) := by
  unfold Con
  intro p loose mean mg mb dp un gd cn cs a ccd cl outer A₀ base h₀ L m s Q E B F X N TT hk hd hu hret
  refine wpAny_call ?_
  k_dflt (refine' code_defC ?k1 ?k2 ?k3 ?k4 ?k5 ?kA ?kF ?kK ?k6 ?k7 ?k8 ?k9 ?kB ?kD ?_ ?c2 ?c3 ?c4; (case kA => exact rfl); (case kF => exact rfl); (case kK => assumption); (case k1 => k_asm); (case k2 => k_asm); (case k3 => k_asm); (case k4 => k_asm); (case k5 => k_asm); (case k6 => k_is); (case k7 => k_is); (case k8 => ktr_room); (case k9 => exact BindsTo.of_eq rfl); (case kB => exact rfl); (case kD => decide +kernel); (case c2 => exact rfl); (case c3 => exact rfl); (case c4 => exact rfl); k_whole; intro g' L' h' tk' cells' FG' F' N' Y' B' X' T' l1; (try k_lt l1); k_cells Y'; (try simp only [List.cons_append, List.nil_append] at N'); (try dsimp only); (try k_lift B'); (try k_fold))
  k_steps
  (with_reducible rename News _ _ _ _ => N9)
  exact hret _ _ _ _ ⟨_, rfl, rfl⟩ (by assumption) (news_at1 N9 (lst2_of (fbit h0 h1 ⟨0, by decide⟩) (fbit h0 h1 ⟨1, by decide⟩) (fbit h0 h1 ⟨2, by decide⟩) (fbit h0 h1 ⟨3, by decide⟩) (fbit h0 h1 ⟨4, by decide⟩)) (fun _ hp => .tail _ hp))

local macro_rules | `(tactic| walk_at "call ref") => `(tactic| (k_here; (with_reducible show wpAny _ _ (call (Value.ref 313) _) _ _ _); k_dflt (refine' Con.use (bits2 _ ?c0 ?c1) ?kB ?kF ?kX ?kN ?kT ?kK ?kd ?ku ?_; (case kB => k_asm); (case kF => k_asm); (case kX => k_asm); (case kN => k_asm); (case kT => k_asm); (case kK => exact rfl); (case c0 => assumption); (case c1 => assumption); (case kd => ktr_room); (case ku => ktr_units); k_whole); intro v9 n9 h9 tk9 e9 F9 N9; obtain ⟨D9, e9, e8⟩ := e9; subst e9; subst e8; (try k_sweep); (try dsimp only)))
local macro_rules | `(tactic| walk_at "call ref") => `(tactic| (k_here; (with_reducible show wpAny _ _ (call (Value.ref 241) _) _ _ _); k_dflt (refine' Con.use (gbi2 _ ?c1 ?c2 ?c3) ?kB ?kF ?kX ?kN ?kT ?kK ?kd ?ku ?_; (case kB => k_asm); (case kF => k_asm); (case kX => k_asm); (case kN => k_asm); (case kT => k_asm); (case kK => exact rfl); (case c2 => k_mem); (case c3 => k_mem); (case c1 => assumption); (case kd => ktr_room); (case ku => ktr_units); k_whole); intro v9 n9 h9 tk9 e9 F9 N9; obtain ⟨⟨t9, e9⟩, e8⟩ := e9; subst e9; subst e8; (try k_sweep); (try dsimp only)))
local macro_rules | `(tactic| walk_at "call ref") => `(tactic| (k_here; (with_reducible show wpAny _ _ (call (Value.ref 248) _) _ _ _); k_dflt (refine' Con.use (gb2 _ ?c1 ?c2 ?c3) ?kB ?kF ?kX ?kN ?kT ?kK ?kd ?ku ?_; (case kB => k_asm); (case kF => k_asm); (case kX => k_asm); (case kN => k_asm); (case kT => k_asm); (case kK => exact rfl); (case c2 => k_mem); (case c3 => k_mem); (case c1 => assumption); (case kd => ktr_room); (case ku => ktr_units); k_whole); intro v9 n9 h9 tk9 e9 F9 N9; obtain ⟨⟨t9, e9⟩, e8⟩ := e9; subst e9; subst e8; (try k_sweep); (try dsimp only)))
local macro_rules | `(tactic| walk_at "call ref") => `(tactic| (k_here; (with_reducible show wpAny _ _ (call (Value.ref 262) _) _ _ _); k_dflt (refine' Con.use (av2 _ ?c1 ?c2 ?c3) ?kB ?kF ?kX ?kN ?kT ?kK ?kd ?ku ?_; (case kB => k_asm); (case kF => k_asm); (case kX => k_asm); (case kN => k_asm); (case kT => k_asm); (case kK => exact rfl); (case c2 => k_mem); (case c3 => k_mem); (case c1 => assumption); (case kd => ktr_room); (case ku => ktr_units); k_whole); intro v9 n9 h9 tk9 e9 F9 N9; obtain ⟨e9, e8⟩ := e9; subst e9; subst e8; (try k_sweep); (try dsimp only)))
theorem same2 (w : World) {x dx : Addr} {T : Nat → Tok} {v : Int} {t1 t2 : Tok} {news : Led} (hv : Ok 2 v) (hx : (x, instObj 276 dx) ∈ news) (hdx : (dx, D2 w T v) ∈ news) :
    Con 12 w 334 [.int 2 t1, .ref x, .int v t2] news (fun r n' => r = .bool true ∧ news = n') := by
  unfold Con
  intro p loose mean mg mb dp un gd cn cs a ccd cl outer A₀ base h₀ L m s Q E B F X N TT hk hd hu hret
  have v0 := hv.lo
  have v1 := hv.hi
  refine wpAny_call ?_
  k_dflt cell_enter
  k_steps
  (with_reducible rename News _ _ _ _ => N9)
  exact hret _ _ _ _ ⟨rfl, rfl⟩ (by assumption) (fun p hp => N9 p (by simp only [List.mem_cons]; simp [hp]))

end Mine
-- part C7
namespace Mine
local macro_rules | `(tactic| k_room) => `(tactic| ktr_room)
local macro_rules | `(tactic| k_all) => `(tactic| assumption)

theorem stD0 (w : World) {T : Nat → Tok} {v v1 : Int} {on : Bool} (e0 : bit v1 0 = bit v 0) (e1 : bit v1 1 = bit v 1) (e2 : bit v1 2 = bit v 2) (e3 : bit v1 3 = on) (e4 : bit v1 4 = bit v 4) (e5 : bit v1 5 = bit v 5) (e6 : bit v1 6 = bit v 6) (e7 : bit v1 7 = bit v 7) : E0 w T (bit v 0) (bit v 1) (bit v 2) on (bit v 4) (bit v 5) (bit v 6) (bit v 7) = D0 w T v1 := by
  show _ = E0 w T (bit v1 0) (bit v1 1) (bit v1 2) (bit v1 3) (bit v1 4) (bit v1 5) (bit v1 6) (bit v1 7)
  rw [e0, e1, e2, e3, e4, e5, e6, e7]
theorem st0_ (w : World) {x dx : Addr} {T : Nat → Tok} {v : Int} {on : Bool} {t1 : Tok} (rest : Led) (hxd : x ≠ dx) (hr : ∀ p ∈ rest, p.1 ≠ dx) :
    Con 5 w 353 [.int 0 t1, .ref x, .bool on] ((x, instObj 126 dx) :: (dx, D0 w T v) :: rest) (fun r n' => r = .none ∧ (x, instObj 126 dx) :: (dx, E0 w T (bit v 0) (bit v 1) (bit v 2) on (bit v 4) (bit v 5) (bit v 6) (bit v 7)) :: rest = n') := by
  unfold Con
  intro p loose mean mg mb dp un gd cn cs a ccd cl outer A₀ base h₀ L m s Q E B F X N TT hk hd hu hret
  refine wpAny_call ?_
  k_dflt cell_enter
  k_steps
  (with_reducible rename News _ _ _ _ => N9)
  exact hret _ _ _ _ ⟨rfl, rfl⟩ (by assumption) N9
theorem st0 (w : World) {x dx : Addr} {T : Nat → Tok} {v v1 : Int} {on : Bool} {t1 : Tok} {n n' : Led} (e0 : bit v1 0 = bit v 0) (e1 : bit v1 1 = bit v 1) (e2 : bit v1 2 = bit v 2) (e3 : bit v1 3 = on) (e4 : bit v1 4 = bit v 4) (e5 : bit v1 5 = bit v 5) (e6 : bit v1 6 = bit v 6) (e7 : bit v1 7 = bit v 7) (hx : (x, instObj 126 dx) ∈ n) (U : Upd dx (D0 w T v) (D0 w T v1) n n') :
    Con 5 w 353 [.int 0 t1, .ref x, .bool on] n (fun r m => r = .none ∧ n' = m) := by
  rw [← stD0 w e0 e1 e2 e3 e4 e5 e6 e7] at U
  exact Con.upd (inst_ne_dict _ _ _ _) hx U (st0_ w)

theorem stD1 (w : World) {T : Nat → Tok} {v v1 : Int} {on : Bool} (e5 : bit v1 5 = bit v 5) (e6 : bit v1 6 = on) (e7 : bit v1 7 = bit v 7) : E1 w T (bit v 5) on (bit v 7) = D1 w T v1 := by
  show _ = E1 w T (bit v1 5) (bit v1 6) (bit v1 7)
  rw [e5, e6, e7]
theorem st1_ (w : World) {x dx : Addr} {T : Nat → Tok} {v : Int} {on : Bool} {t1 : Tok} (rest : Led) (hxd : x ≠ dx) (hr : ∀ p ∈ rest, p.1 ≠ dx) :
    Con 5 w 353 [.int 1 t1, .ref x, .bool on] ((x, instObj 187 dx) :: (dx, D1 w T v) :: rest) (fun r n' => r = .none ∧ (x, instObj 187 dx) :: (dx, E1 w T (bit v 5) on (bit v 7)) :: rest = n') := by
  unfold Con
  intro p loose mean mg mb dp un gd cn cs a ccd cl outer A₀ base h₀ L m s Q E B F X N TT hk hd hu hret
  refine wpAny_call ?_
  k_dflt cell_enter
  k_steps
  (with_reducible rename News _ _ _ _ => N9)
  exact hret _ _ _ _ ⟨rfl, rfl⟩ (by assumption) N9
theorem st1 (w : World) {x dx : Addr} {T : Nat → Tok} {v v1 : Int} {on : Bool} {t1 : Tok} {n n' : Led} (e5 : bit v1 5 = bit v 5) (e6 : bit v1 6 = on) (e7 : bit v1 7 = bit v 7) (hx : (x, instObj 187 dx) ∈ n) (U : Upd dx (D1 w T v) (D1 w T v1) n n') :
    Con 5 w 353 [.int 1 t1, .ref x, .bool on] n (fun r m => r = .none ∧ n' = m) := by
  rw [← stD1 w e5 e6 e7] at U
  exact Con.upd (inst_ne_dict _ _ _ _) hx U (st1_ w)

theorem stD2 (w : World) {T : Nat → Tok} {v v1 : Int} {on : Bool} (e0 : bit v1 0 = bit v 0) (e1 : bit v1 1 = bit v 1) (e2 : bit v1 2 = on) (e3 : bit v1 3 = bit v 3) (e4 : bit v1 4 = bit v 4) : E2 w T (bit v 0) (bit v 1) on (bit v 3) (bit v 4) = D2 w T v1 := by
  show _ = E2 w T (bit v1 0) (bit v1 1) (bit v1 2) (bit v1 3) (bit v1 4)
  rw [e0, e1, e2, e3, e4]
theorem st2_ (w : World) {x dx : Addr} {T : Nat → Tok} {v : Int} {on : Bool} {t1 : Tok} (rest : Led) (hxd : x ≠ dx) (hr : ∀ p ∈ rest, p.1 ≠ dx) :
    Con 5 w 353 [.int 2 t1, .ref x, .bool on] ((x, instObj 276 dx) :: (dx, D2 w T v) :: rest) (fun r n' => r = .none ∧ (x, instObj 276 dx) :: (dx, E2 w T (bit v 0) (bit v 1) on (bit v 3) (bit v 4)) :: rest = n') := by
  unfold Con
  intro p loose mean mg mb dp un gd cn cs a ccd cl outer A₀ base h₀ L m s Q E B F X N TT hk hd hu hret
  refine wpAny_call ?_
  k_dflt cell_enter
  k_steps
  (with_reducible rename News _ _ _ _ => N9)
  exact hret _ _ _ _ ⟨rfl, rfl⟩ (by assumption) N9
theorem st2 (w : World) {x dx : Addr} {T : Nat → Tok} {v v1 : Int} {on : Bool} {t1 : Tok} {n n' : Led} (e0 : bit v1 0 = bit v 0) (e1 : bit v1 1 = bit v 1) (e2 : bit v1 2 = on) (e3 : bit v1 3 = bit v 3) (e4 : bit v1 4 = bit v 4) (hx : (x, instObj 276 dx) ∈ n) (U : Upd dx (D2 w T v) (D2 w T v1) n n') :
    Con 5 w 353 [.int 2 t1, .ref x, .bool on] n (fun r m => r = .none ∧ n' = m) := by
  rw [← stD2 w e0 e1 e2 e3 e4] at U
  exact Con.upd (inst_ne_dict _ _ _ _) hx U (st2_ w)

end Mine
-- part LJ
namespace Mine
abbrev Led' := List (Addr × Obj)
/-- a turn's end: the iterator as it stands, the source kept, the word of the next turn -/
def TurnJ (h₀ : Heap) (L ax : Addr) (lo : Obj) (I : Addr) (oI : Obj) (J : (Str → Option Value) → Led' → Prop) (s₁ : Shared) (Q : Flow → Shared → Prop) (f : Flow) (s₂ : Shared) : Prop := match f with
  | .ret v => Q (.ret v) s₂
  | .brk => Q .next s₂
  | _ => ∃ h' tk m' news', s₂ = { s₁ with heap := h', toks := tk } ∧ Fr h₀ L h' m' ∧ News h₀ L h' ((I, oI) :: news') ∧ (∀ p ∈ news', p.1 ≠ I) ∧ (ax, lo) ∈ news' ∧ J m' news'
section
variable {prog : Program} {w : World} {A : Around} {E : Value → Shared → Prop} {s : Shared} {env : Env} {h₀ : Heap} {target : PySem.Expr} {body : List Stmt} {Q : Flow → Shared → Prop}
theorem core_J {I ax : Addr} {lo : Obj} {n : Nat} {c : String} {P : Nat → Value → Prop} {St : Nat → Heap → Prop} {m₀ : Str → Option Value} {news : Led'} {hp : Heap} {tk0 : Nat} (J : Nat → (Str → Option Value) → Led' → Prop)
    (W : Walks prog w A I [I, ax] [I] n P St) (hgo : ∀ i v (s : Shared) (Q : Unit → Shared → Prop) (E : Value → Shared → Prop), St i s.heap → Q () s → wpAny (model prog w) A (letOwnedTupleGo target (.ref I) v) Q E s)
    (hob : ∀ i h, St i h → ∃ o, h.get? I = some o ∧ o.cls = .type c) (hI0 : h₀.get? I = none) (hL : env.locals ∉ [I, ax]) (hnw : ∀ p ∈ news, p.1 ≠ I) (hst : St 0 hp) (hm : (ax, lo) ∈ news)
    (F : Fr h₀ env.locals hp m₀) (N : News h₀ env.locals hp news) (hj : J 0 m₀ news)
    (turn : ∀ i v oI m₁ news₁ h tk, i < n → P i v → oI.cls = .type c → J i m₁ news₁ → (∀ p ∈ news₁, p.1 ≠ I) → (ax, lo) ∈ news₁ → Fr h₀ env.locals h m₁ → News h₀ env.locals h ((I, oI) :: news₁) →
      wpAny (model prog w) A (assign target env v) (fun _ s₂ => wpAny (model prog w) A (execs body env) (TurnJ h₀ env.locals ax lo I oI (J (i + 1)) { s with heap := h, toks := tk } Q) E s₂) E { s with heap := h, toks := tk })
    (done : ∀ m₁ news₁ h tk, J n m₁ news₁ → (ax, lo) ∈ news₁ → Fr h₀ env.locals h m₁ → News h₀ env.locals h news₁ → Q .next { s with heap := h, toks := tk }) :
    TurnsAt prog w A h₀ env target body Q E (.ref I) { s with heap := hp, toks := tk0 } := by
  refine ⟨I, [I, ax], [I], n, _, _, St, m₀, news, fun i m nw => (ax, lo) ∈ nw ∧ J i m nw, rfl, KTurns.ofWalks W hgo, hL, fun b hb => by rw [List.mem_singleton.mp hb]; exact hI0, fun p hp hI => hnw p hp (List.mem_singleton.mp hI), hst, F, N, ⟨hm, hj⟩, ?_, ?_⟩
  · intro i v m₁ news₁ h₁ tk₁ own hin hPi hJ hoff hown hget hall hst₁ F₁ N₁
    obtain ⟨hm₁, hJ₁⟩ := hJ
    obtain ⟨oI, hoI, hcI⟩ := hob _ _ hst₁
    have hIown : (I, oI) ∈ own := hall I (List.mem_cons_self ..) hI0 oI hoI
    have hax := N₁ (ax, lo) (List.mem_append_right _ hm₁)
    have hone : ∀ p ∈ own, p = (I, oI) ∨ p = (ax, lo) := by
      rintro ⟨a, o⟩ hp
      have hg : h₁.get? a = some o := hget _ hp
      rcases List.mem_cons.mp (hown _ hp) with e | e
      · obtain rfl : a = I := e
        rw [hoI] at hg
        exact .inl (by rw [Option.some.inj hg])
      · obtain rfl : a = ax := List.mem_singleton.mp e
        have h2 : h₁.get? a = some lo := hax.1
        rw [h2] at hg
        exact .inr (by rw [Option.some.inj hg])
    have N₂ : News h₀ env.locals h₁ ((I, oI) :: news₁) := fun p hp => by
      rcases List.mem_cons.mp hp with rfl | hp
      · exact N₁ _ (List.mem_append_left _ hIown)
      · exact N₁ _ (List.mem_append_right _ hp)
    have fin : ∀ s₃, (∃ h' tk m' news', s₃ = { s with heap := h', toks := tk } ∧ Fr h₀ env.locals h' m' ∧ News h₀ env.locals h' ((I, oI) :: news') ∧ (∀ p ∈ news', p.1 ≠ I) ∧ (ax, lo) ∈ news' ∧ J (i + 1) m' news') →
        LoopStepU h₀ env.locals [I] own (fun m nw => (ax, lo) ∈ nw ∧ J (i + 1) m nw) { s with heap := h₁, toks := tk₁ } .next s₃ := by
      rintro s₃ ⟨h', tk, m', news', e, F', N', ho, hm', r⟩
      refine ⟨rfl, h', tk, m', news', e, F', ?_, fun p hp hI => ho p hp (List.mem_singleton.mp hI), hm', r⟩
      intro p hp
      rcases List.mem_append.mp hp with hp | hp
      · rcases hone p hp with rfl | rfl
        · exact N' _ (.head _)
        · exact N' _ (.tail _ hm')
      · exact N' _ (.tail _ hp)
    refine wpAny_mono (turn i v oI m₁ news₁ h₁ tk₁ hin hPi hcI hJ₁ (fun p hp => fun q => hoff p hp (by rw [q]; exact List.mem_singleton.mpr rfl)) hm₁ F₁ N₂) (fun _ s₂ h₂ => wpAny_mono h₂ (fun f s₃ p => ?_) fun _ _ e => e) fun _ _ e => e
    cases f with
    | ret v => exact .ret p
    | brk => exact .brk p
    | next => exact .next (fin _ p)
    | cont => exact .cont (fin _ p)
  · intro h' tk m' news' F' N' _ hJ
    exact done m' news' h' tk hJ.2 hJ.1 F' N'

theorem iter_listJ {ax : Addr} {lo : Obj} {vs : List Value} {n : Nat} {m₀ : Str → Option Value} {news : Led'} (J : Nat → (Str → Option Value) → Led' → Prop)
    (hh : A.handled = none) (F : Fr h₀ env.locals s.heap m₀) (N : News h₀ env.locals s.heap news) (hm : (ax, lo) ∈ news) (hc : lo.cls = .type "list") (hd : lo.data = .seq vs.toArray n) (hj : J 0 m₀ news)
    (turn : ∀ i v I oI m₁ news₁ h tk, vs[i]? = some v → oI.cls = .type "list_iterator" → J i m₁ news₁ → (∀ p ∈ news₁, p.1 ≠ I) → (ax, lo) ∈ news₁ → Fr h₀ env.locals h m₁ → News h₀ env.locals h ((I, oI) :: news₁) →
      wpAny (model prog w) A (assign target env v) (fun _ s₂ => wpAny (model prog w) A (execs body env) (TurnJ h₀ env.locals ax lo I oI (J (i + 1)) { s with heap := h, toks := tk } Q) E s₂) E { s with heap := h, toks := tk })
    (done : ∀ m₁ news₁ h tk, J vs.length m₁ news₁ → (ax, lo) ∈ news₁ → Fr h₀ env.locals h m₁ → News h₀ env.locals h news₁ → Q .next { s with heap := h, toks := tk }) :
    wpAny (model prog w) A (pyIter (.ref ax)) (fun it s₂ => TurnsAt prog w A h₀ env target body Q E it s₂) E s := by
  have hax := N _ hm
  have hl : s.heap.IsList ax vs.toArray := ⟨lo, hax.1, hc, n, hd⟩
  have hlt : ax < s.heap.objs.size := Heap.lt_size hax.1
  have hne : ax ≠ s.heap.objs.size := Nat.ne_of_lt hlt
  refine wpAny_pyIter_list hl ?_
  refine core_J (c := "list_iterator") (tk0 := s.toks) (n := vs.toArray.size) J (Walks.list hh s.heap.objs.size ax hne vs.toArray) (fun i v s Q E st q => letGo_listiter st.1 q) (fun i h st => ?_) (next_is_new F) ?_ (fun p hp => Nat.ne_of_lt (Heap.lt_size (N p hp).1)) ?_ hm (F.push _) (fun p hp => ⟨Heap.get?_push_of_some _ (N p hp).1, (N p hp).2⟩) hj ?_ ?_
  · obtain ⟨it, hit, hic, _⟩ := st.1
    exact ⟨it, hit, hic⟩
  · intro hI
    rcases List.mem_cons.mp hI with e | hI
    · exact absurd F.ns.lt (e ▸ Nat.lt_irrefl _)
    · exact hax.2.1 (List.mem_singleton.mp hI).symm
  · exact ⟨⟨_, Heap.get?_push_size _ rfl, rfl, rfl⟩, hl.at fun o e => Heap.get?_push_of_some _ e⟩
  · intro i v oI m₁ news₁ h tk hi hP hc hJ ho hm' F' N'
    have hP' : vs.toArray[i]? = some v := hP
    exact turn i v _ oI m₁ news₁ h tk (by simpa using hP') hc hJ ho hm' F' N'
  · intro m₁ news₁ h tk hJ
    exact done m₁ news₁ h tk (by simpa using hJ)

theorem iter_tupJ {ax : Addr} {lo : Obj} {vs : List Value} {n : Nat} {m₀ : Str → Option Value} {news : Led'} (J : Nat → (Str → Option Value) → Led' → Prop)
    (hh : A.handled = none) (F : Fr h₀ env.locals s.heap m₀) (N : News h₀ env.locals s.heap news) (hm : (ax, lo) ∈ news) (hc : lo.cls = .type "tuple") (hd : lo.data = .seq vs.toArray n) (hj : J 0 m₀ news)
    (turn : ∀ i v I oI m₁ news₁ h tk, vs[i]? = some v → oI.cls = .type "tuple_iterator" → J i m₁ news₁ → (∀ p ∈ news₁, p.1 ≠ I) → (ax, lo) ∈ news₁ → Fr h₀ env.locals h m₁ → News h₀ env.locals h ((I, oI) :: news₁) →
      wpAny (model prog w) A (assign target env v) (fun _ s₂ => wpAny (model prog w) A (execs body env) (TurnJ h₀ env.locals ax lo I oI (J (i + 1)) { s with heap := h, toks := tk } Q) E s₂) E { s with heap := h, toks := tk })
    (done : ∀ m₁ news₁ h tk, J vs.length m₁ news₁ → (ax, lo) ∈ news₁ → Fr h₀ env.locals h m₁ → News h₀ env.locals h news₁ → Q .next { s with heap := h, toks := tk }) :
    wpAny (model prog w) A (pyIter (.ref ax)) (fun it s₂ => TurnsAt prog w A h₀ env target body Q E it s₂) E s := by
  have hax := N _ hm
  have hl : s.heap.IsTuple ax vs.toArray := ⟨lo, hax.1, hc, n, hd⟩
  have hlt : ax < s.heap.objs.size := Heap.lt_size hax.1
  have hne : ax ≠ s.heap.objs.size := Nat.ne_of_lt hlt
  refine wpAny_pyIter_tuple hl ?_
  refine core_J (c := "tuple_iterator") (tk0 := s.toks) (n := vs.toArray.size) J (Walks.tuple hh s.heap.objs.size ax hne vs.toArray) (fun i v s Q E st q => letGo_tupleiter st.1 q) (fun i h st => ?_) (next_is_new F) ?_ (fun p hp => Nat.ne_of_lt (Heap.lt_size (N p hp).1)) ?_ hm (F.push _) (fun p hp => ⟨Heap.get?_push_of_some _ (N p hp).1, (N p hp).2⟩) hj ?_ ?_
  · obtain ⟨it, hit, hic, _⟩ := st.1
    exact ⟨it, hit, hic⟩
  · intro hI
    rcases List.mem_cons.mp hI with e | hI
    · exact absurd F.ns.lt (e ▸ Nat.lt_irrefl _)
    · exact hax.2.1 (List.mem_singleton.mp hI).symm
  · exact ⟨⟨_, Heap.get?_push_size _ rfl, rfl, rfl⟩, hl.at fun o e => Heap.get?_push_of_some _ e⟩
  · intro i v oI m₁ news₁ h tk hi hP hc hJ ho hm' F' N'
    have hP' : vs.toArray[i]? = some v := hP
    exact turn i v _ oI m₁ news₁ h tk (by simpa using hP') hc hJ ho hm' F' N'
  · intro m₁ news₁ h tk hJ
    exact done m₁ news₁ h tk (by simpa using hJ)
end
end Mine
-- part I2
namespace Mine
local macro_rules | `(tactic| k_room) => `(tactic| ktr_room)
local macro_rules | `(tactic| k_all) => `(tactic| assumption)
abbrev hexT (i : Int) : Str := Txt.item (Str.ofString "0123456789ABCDEF") i
/-- the name's text as the law grows it -/
def isoA (n : Int) : Str := Txt.item (Str.ofString "PCBU") (n.fdiv 4194304) ++ Txt.item (Str.ofString "0123") ((n.fdiv 1048576).fmod 4)
def isoB (n : Int) : Str := isoA n ++ hexT ((n.fdiv (256 * 256)).fmod 16)
def isoC (n : Int) : Str := isoB n ++ hexT ((n.fdiv (16 * 256)).fmod 16)
def isoD (n : Int) : Str := isoC n ++ hexT ((n.fdiv (1 * 256)).fmod 16)
def isoP (n : Int) : Nat → Str
  | 0 => isoA n
  | 1 => isoB n
  | 2 => isoC n
  | _ => isoD n
def isoTxt (n : Int) : Str := ((isoD n ++ Str.ofString "-") ++ hexT ((n.fdiv 16).fmod 16)) ++ hexT (n.fmod 16)
theorem lenA (n : Int) : (isoA n).length = 2 := by unfold isoA; rw [Str.length_append]; rfl
theorem lenB (n : Int) : (isoB n).length = 3 := by unfold isoB; rw [Str.length_append, lenA]; rfl
theorem lenC (n : Int) : (isoC n).length = 4 := by unfold isoC; rw [Str.length_append, lenB]; rfl
theorem lenD (n : Int) : (isoD n).length = 5 := by unfold isoD; rw [Str.length_append, lenC]; rfl
theorem isoP_len (n : Int) : ∀ i, (isoP n i).length ≤ 5
  | 0 => by show (isoA n).length ≤ 5; rw [lenA]; decide
  | 1 => by show (isoB n).length ≤ 5; rw [lenB]; decide
  | 2 => by show (isoC n).length ≤ 5; rw [lenC]; decide
  | _ + 3 => by show (isoD n).length ≤ 5; rw [lenD]; decide
theorem item_len (x : Str) (i : Int) : (Txt.item x i).length = 1 := rfl
theorem dash_len : (Str.ofString "-").length = 1 := by decide
theorem add_len {x y : Str} {a b : Nat} (hx : x.length ≤ a) (hy : y.length ≤ b) : (x ++ y).length ≤ a + b := by rw [Str.length_append]; omega
theorem add_txt {prog : Program} {w : World} {A : Around} {E : Value → Shared → Prop} {s : Shared} {x y : Str} {t u : Tok} {Q : Value → Shared → Prop} {a b : Nat} (hx : x.length ≤ a) (hy : y.length ≤ b) (hab : a + b ≤ 16777216)
    (h : ∀ t' k, Q (.str (x ++ y) t') { s with toks := k }) : wpAny (model prog w) A (binaryOp .Add (.str x t) (.str y u)) Q E s :=
  PySem.SB.add h (by rw [sizeLine_eq]; omega)
local macro_rules | `(tactic| walk_at "binaryOp Add str str") => `(tactic| ((refine' add_txt ?l1 ?l2 ?l3 ?_; (case l1 => first | exact isoP_len _ _ | exact Nat.le_of_eq (item_len _ _) | exact add_len (isoP_len _ _) (Nat.le_of_eq dash_len) | exact add_len (add_len (isoP_len _ _) (Nat.le_of_eq dash_len)) (Nat.le_of_eq (item_len _ _))); (case l2 => first | exact Nat.le_of_eq (item_len _ _) | exact Nat.le_of_eq dash_len); (case l3 => decide)); intro _ _))

def TextEnd (h₀ : Heap) (L I ax : Addr) (oI lo : Obj) (x y : Str) (T : Str) (m₀ : Str → Option Value) (news : Led) (s : Shared) (f : Flow) (s₃ : Shared) : Prop :=
  f = .next ∧ ∃ h' tk' u' tn', s₃ = { s with heap := h', toks := tk' } ∧ Fr h₀ L h' (fun z => if z = x then u' else if z = y then some (.str T tn') else m₀ z) ∧ News h₀ L h' ((I, oI) :: (ax, lo) :: news)
theorem put_ns {x y : Str} (hxy : y ≠ x) (m₀ : Str → Option Value) (u u' a b : Option Value) :
    (fun z => if z = y then b else if z = x then u' else (if z = x then u else if z = y then a else m₀ z)) = fun z => if z = x then u' else if z = y then b else m₀ z := by
  funext z
  by_cases h1 : z = x
  · have h2 : ¬ z = y := fun q => hxy (q.symm.trans h1)
    simp only [if_pos h1, if_neg h2]
  · by_cases h2 : z = y
    · simp only [if_neg h1, if_pos h2]
    · simp only [if_neg h1, if_neg h2]
/-- a loop over a made tuple that grows one text -/
theorem iter_text {prog : Program} {w : World} {A : Around} {E : Value → Shared → Prop} {s : Shared} {env : Env} {h₀ : Heap} {body : List Stmt} {Q : Flow → Shared → Prop} {x y : Str} {px : Pos} {ax : Addr} {lo : Obj} {vs : List Value} {n : Nat} {m₀ : Str → Option Value} {news : Led} {t0 : Tok} (pre : Nat → Str)
    (hh : A.handled = none) (F : Fr h₀ env.locals s.heap m₀) (N : News h₀ env.locals s.heap ((ax, lo) :: news)) (hc : lo.cls = .type "tuple") (hd : lo.data = .seq vs.toArray n) (hm : m₀ y = some (.str (pre 0) t0)) (hxy : y ≠ x)
    (turn : ∀ i v u tn I oI h tk, vs[i]? = some v → Fr h₀ env.locals h (fun z => if z = x then u else if z = y then some (.str (pre i) tn) else m₀ z) → News h₀ env.locals h ((I, oI) :: (ax, lo) :: news) →
      wpAny (model prog w) A (assign (.Name x px) env v) (fun _ s₂ => wpAny (model prog w) A (execs body env) (TextEnd h₀ env.locals I ax oI lo x y (pre (i + 1)) m₀ news s) E s₂) E { s with heap := h, toks := tk })
    (done : ∀ u tn h tk, Fr h₀ env.locals h (fun z => if z = x then u else if z = y then some (.str (pre vs.length) tn) else m₀ z) → News h₀ env.locals h news → Q .next { s with heap := h, toks := tk }) :
    wpAny (model prog w) A (pyIter (.ref ax)) (fun it s₂ => TurnsAt prog w A h₀ env (.Name x px) body Q E it s₂) E s := by
  refine iter_tupJ (lo := lo) (vs := vs) (n := n) (fun i m nw => nw = (ax, lo) :: news ∧ ∃ u tn, m = fun z => if z = x then u else if z = y then some (.str (pre i) tn) else m₀ z) hh F N (.head _) hc hd ⟨rfl, m₀ x, t0, ?_⟩ ?_ ?_
  · funext z
    by_cases h1 : z = x
    · simp [h1]
    · by_cases h2 : z = y
      · subst h2; simp [h1, hm]
      · simp [h1, h2]
  · rintro i v I oI m₁ news₁ h tk hv _ ⟨rfl, u, tn, rfl⟩ ho hm' F' N'
    refine wpAny_mono (turn i v u tn I oI h tk hv F' N') (fun _ s₂ h₂ => wpAny_mono h₂ (fun f s₃ h₃ => ?_) fun _ _ e => e) fun _ _ e => e
    obtain ⟨rfl, h', tk', u', tn', rfl, F₃, N₃⟩ := h₃
    exact ⟨h', tk', _, _, rfl, F₃, N₃, ho, hm', rfl, u', tn', rfl⟩
  · rintro m₁ news₁ h tk ⟨rfl, u, tn, rfl⟩ _ F' N'
    exact done u tn h tk F' fun p hp => N' p (.tail _ hp)

theorem Fr.to {h₀ h : Heap} {L : Addr} {m m' : Str → Option Value} (F : Fr h₀ L h m) (e : m = m') : Fr h₀ L h m' := e ▸ F

theorem iso (w : World) {n : Int} {t : Tok} {news : Led} (h0 : 0 ≤ n) (h1 : n < 16777216) :
    Con 8 w 367 [.int n t] news (fun r m => (∃ t, r = .str (isoTxt n) t) ∧ news = m) := by
  unfold Con
  intro p loose mean mg mb dp un gd cn cs a ccd cl outer A₀ base h₀ L m s Q E B F X N TT hk hd hu hret
  refine wpAny_call ?_
  k_dflt cell_enter
  k_steps
  (rename Fr _ _ _ _ => F9)
  (rename News _ _ _ _ => N9)
  with_unfolding_all refine iter_text (x := Str.ofString "shift") (y := Str.ofString "name") (isoP n) (by rfl) F9 N9 (by rfl) (by rfl) (by rfl) (by decide) ?_ ?_
  · intro i v u tn I oI h tk hv F8 N8
    match i, hv with
    | 0, hv =>
      obtain rfl := Option.some.inj hv
      k_steps
      (rename Fr _ _ _ _ => F7)
      (rename News _ _ _ _ => N7)
      exact ⟨rfl, _, _, _, _, rfl, Fr.to F7 (put_ns (by decide) _ _ _ _ _), N7⟩
    | 1, hv =>
      obtain rfl := Option.some.inj hv
      k_steps
      (rename Fr _ _ _ _ => F7)
      (rename News _ _ _ _ => N7)
      exact ⟨rfl, _, _, _, _, rfl, Fr.to F7 (put_ns (by decide) _ _ _ _ _), N7⟩
    | 2, hv =>
      obtain rfl := Option.some.inj hv
      k_steps
      (rename Fr _ _ _ _ => F7)
      (rename News _ _ _ _ => N7)
      exact ⟨rfl, _, _, _, _, rfl, Fr.to F7 (put_ns (by decide) _ _ _ _ _), N7⟩
    | i + 3, hv => cases hv
  · intro u tn h tk F8 N8
    k_steps
    exact hret _ _ _ _ ⟨⟨_, rfl⟩, rfl⟩ (by assumption) (by assumption)
end Mine
-- part FX
namespace Mine
open Builtin Builtin.Str
def fmtX (w : Nat) (i : Nat) : List Nat :=
  let f : Percent := { zero := true, width := some w, type := 88 }
  let text := percentInt f false ((Nat.toDigits 16 i).map Char.toNat)
  match percentField f true text with | none => text | some laid => laid
def hexN (i : Nat) : Nat := if i < 10 then 48 + i else 55 + i
def up (c : Nat) : Nat := if isAsciiLower c then c - 32 else c
theorem up_digit : ∀ d : Fin 16, up (Nat.digitChar d.val).toNat = hexN d.val := by decide +kernel
theorem up_digit' {d : Nat} (h : d < 16) : up (Nat.digitChar d).toNat = hexN d := up_digit ⟨d, h⟩
theorem fx_text (w : Nat) (l : List Nat) : percentInt { zero := true, width := some w, type := 88 } false l = l.map up := by
  unfold percentInt
  simp [up]
theorem hexN_ge (d : Nat) : 48 ≤ hexN d := by unfold hexN; split <;> omega
theorem hexN_48 : hexN 0 = 48 := rfl
theorem dig1 {i : Nat} (h : i < 16) : ((Nat.toDigits 16 i).map Char.toNat).map up = [hexN i] := by
  rw [Nat.toDigits_of_lt_base h]
  simp only [List.map_cons, List.map_nil, up_digit' h]
theorem digS {i : Nat} (h : 16 ≤ i) : ((Nat.toDigits 16 i).map Char.toNat).map up = ((Nat.toDigits 16 (i / 16)).map Char.toNat).map up ++ [hexN (i % 16)] := by
  rw [Nat.toDigits_of_base_le (by decide) h]
  simp only [List.map_append, List.map_cons, List.map_nil, up_digit' (Nat.mod_lt i (by decide : 0 < 16))]
theorem dig2 {i : Nat} (h : 16 ≤ i) (h2 : i < 256) : ((Nat.toDigits 16 i).map Char.toNat).map up = [hexN (i / 16), hexN (i % 16)] := by
  rw [digS h, dig1 (by omega)]; rfl
theorem dig3 {i : Nat} (h : 256 ≤ i) (h2 : i < 4096) : ((Nat.toDigits 16 i).map Char.toNat).map up = [hexN (i / 256), hexN (i / 16 % 16), hexN (i % 16)] := by
  rw [digS (by omega), dig2 (by omega) (by omega), Nat.div_div_eq_div_mul]; rfl
theorem pf_match (c : Nat) (r : List Nat) (h : 48 ≤ c) : (match c :: r with | 45 :: r => (([45] : List Nat), r) | 43 :: r => ([43], r) | _ => (if false = true then [43] else if false = true then [32] else [], c :: r)) = ([], c :: r) := by
  split
  · rename_i e; simp at e; omega
  · rename_i e; simp at e; omega
  · rfl
theorem pf (w : Nat) (c : Nat) (r : List Nat) (h : 48 ≤ c) : percentField { zero := true, width := some w, type := 88 } true (c :: r) = if w ≤ (c :: r).length then none else some (List.replicate (w - (c :: r).length) 48 ++ (c :: r)) := by
  unfold percentField
  by_cases hw : w ≤ (c :: r).length
  · rw [if_pos hw, if_pos (by simpa using hw)]
  · rw [if_neg hw, if_neg (by simpa using hw)]
    show (let x := (match c :: r with | 45 :: r => (([45] : List Nat), r) | 43 :: r => ([43], r) | _ => (if false = true then [43] else if false = true then [32] else [], c :: r)); some (x.1 ++ [] ++ List.replicate (w - (x.1.length + 0 + x.2.length)) 48 ++ x.2)) = _
    rw [pf_match c r h]
    simp
theorem fx2 {i : Nat} (h : i < 256) : fmtX 2 i = [hexN (i / 16), hexN (i % 16)] := by
  unfold fmtX
  simp only [fx_text]
  by_cases h1 : i < 16
  · rw [dig1 h1, pf _ _ _ (hexN_ge _)]
    have e1 : i / 16 = 0 := by omega
    have e2 : i % 16 = i := by omega
    rw [e1, e2]; rfl
  · rw [dig2 (by omega) h, pf _ _ _ (hexN_ge _)]; rfl
theorem fx3 {i : Nat} (h : i < 4096) : fmtX 3 i = [hexN (i / 256), hexN (i / 16 % 16), hexN (i % 16)] := by
  unfold fmtX
  simp only [fx_text]
  by_cases h1 : i < 16
  · rw [dig1 h1, pf _ _ _ (hexN_ge _)]
    have e1 : i / 256 = 0 := by omega
    have e3 : i / 16 % 16 = 0 := by omega
    have e2 : i % 16 = i := by omega
    rw [e1, e2, e3]; rfl
  · by_cases h2 : i < 256
    · rw [dig2 (by omega) h2, pf _ _ _ (hexN_ge _)]
      have e1 : i / 256 = 0 := by omega
      have e3 : i / 16 % 16 = i / 16 := by omega
      rw [e1, e3]; rfl
    · rw [dig3 (by omega) h, pf _ _ _ (hexN_ge _)]; rfl
end Mine
-- part FM
namespace Mine
open Builtin Builtin.Str
def isoF (c : Nat) (d e f : Int) : Str := ((((⟨#[c]⟩ : Str) ++ Str.ofString (toString d)) ++ ⟨(fmtX 3 e.toNat).toArray⟩) ++ Str.ofString "-") ++ ⟨(fmtX 2 f.toNat).toArray⟩
def lay (F : Percent) (text : List Nat) : List Nat := match percentField F true text with | none => text | some laid => laid
section
variable {M : Model} {A : Around} {E : Value → Shared → Prop} {s : Shared}
theorem fld {F : Percent} {text : List Nat} {p : List Value} {wr : Writer} {rest : List Nat} {Q : ForInStep (List Value × Writer × List Nat) → Shared → Prop} (h : Q (ForInStep.yield (p, wr.add ⟨(lay F text).toArray⟩ none, rest)) s) :
    wpAny M A (match percentField F true text with | none => pure (ForInStep.yield (p, wr.add ⟨text.toArray⟩ (if rest.isEmpty = true then none else none), rest)) | some laid => pure (ForInStep.yield (p, wr.add ⟨laid.toArray⟩, rest))) Q E s := by
  unfold lay at h
  split
  · rename_i e
    rw [e] at h
    rw [ite_self]
    exact wpAny_pure h
  · rename_i e
    rw [e] at h
    exact wpAny_pure h
end
theorem lay_is {w : Nat} {i : Int} (h : 0 ≤ i) : (⟨(lay { zero := true, width := some w, type := 88 } (percentInt { zero := true, width := some w, type := 88 } (decide (i < 0)) (List.map Char.toNat (Nat.toDigits 16 i.natAbs)))).toArray⟩ : Str) = ⟨(fmtX w i.toNat).toArray⟩ := by
  have hneg : decide (i < 0) = false := by simp; omega
  have hn : i.natAbs = i.toNat := by omega
  rw [hneg, hn]
  rfl
theorem fmtX_len (w : Nat) (i : Int) (h : (w = 3 ∧ i.toNat < 4096) ∨ (w = 2 ∧ i.toNat < 256)) : (⟨(fmtX w i.toNat).toArray⟩ : Str).length ≤ 3 := by
  rcases h with ⟨rfl, h⟩ | ⟨rfl, h⟩
  · rw [fx3 h]; show 3 ≤ 3; decide
  · rw [fx2 h]; show 2 ≤ 3; decide
theorem fmt_meets {c : Nat} {d e f : Int} {t t1 u1 u2 u3 : Tok} {b : Addr} (d0 : 0 ≤ d) (d1 : d < 4) (e0 : 0 ≤ e) (e1 : e < 4096) (f0 : 0 ≤ f) (f1 : f < 256) :
    Meets (Builtin.«str.__mod__» ⟨[.str (Str.mk #[37, 99, 37, 105, 37, 48, 51, 88, 45, 37, 48, 50, 88]) t, .ref b], []⟩) (fun _ R s => IsTup s.heap b #[.str ⟨#[c]⟩ t1, .int d u1, .int e u2, .int f u3] ∧ ∀ t' k, R (.ok (.ret (.str (isoF c d e f) t'))) { s with toks := k }) := by
  apply KPt.meets_tup
  intro _ _ _ _ _ _ kptH _
  obtain ⟨kptO, kptG, kptC, kptN, kptD⟩ := kptH
  rw [KPt.entry_is_r]
  unfold Builtin.Str.percentFormat
  refine wpAny_bind (wpAny_isInstance (T := "tuple") ⟨kptO, kptG, kptC⟩ KPt.sub_tt ?_)
  refine wpAny_bind (KPt.asStr_ref kptG kptD ?_)
  refine wpAny_bind (KPt.fills_ref ⟨kptO, kptG, kptC⟩ ?_)
  intro _
  kpc_if
  refine wpAny_bind (wpAny_seqItems kptG kptD ?_)
  refine wpAny_bind (wpAny_pure ?_)
  refine wpAny_bind ?_
  rw [KPc.range_list]
  refine KPc.start ?_
  intro w0 g0
  refine KPc.turn ?_; kpc_check; (repeat kpc_if)
  refine wpAny_bind ?_; refine wpAny_holding ?_; (repeat kpc_if)
  refine wpAny_bind (wpAny_of_eq (a := c) rfl ?_)
  refine wpAny_pure ?_
  refine wpAny_pure ?_
  refine KPc.after_add0 g0 rfl (KPc.obj_none rfl) ?_
  intro w1 g1
  replace g1 := KPc.good_mono g1 (show _ ≤ 100 from (show 0 + 1 ≤ 100 by decide))
  refine KPc.turn ?_; kpc_check; (repeat kpc_if)
  refine wpAny_bind ?_; refine wpAny_holding ?_; (repeat kpc_if)
  have hdl : d.natAbs.log2 < 1920 := shown (N := 2 ^ 1920) (by omega) (by omega) (Int.le_refl _)
  refine wpAny_bind (wpAny_of_eq (a := _) rfl ?_); (repeat kpc_if)
  refine wpAny_bind (wpAny_mkInt ?_)
  refine wpAny_bind (call_gives F.slot_int_repr (typeIs_int _ _ _) F.entry_int_repr (F.args_int_repr_1 _) (gives_int_repr _ _ (KPt.hd2 hdl)) ⟨int_text_fits (KPt.hd2 hdl), ?_⟩)
  refine wpAny_bind (wpAny_of_eq (a := some _) rfl ?_)
  refine wpAny_pure ?_
  refine wpAny_pure ?_
  refine KPc.after_int g1 rfl (Or.inr (Or.inl rfl)) rfl d0 (by omega) rfl (ite_self _) ?_
  intro w2 g2
  replace g2 := KPc.good_mono g2 (show _ ≤ 110 by decide)
  refine KPc.turn ?_; kpc_check; (repeat kpc_if)
  refine wpAny_bind ?_; refine wpAny_holding ?_; (repeat kpc_if)
  refine wpAny_bind (wpAny_of_eq (a := e) rfl ?_); (repeat kpc_if)
  refine wpAny_bind (wpAny_pure ?_)
  refine wpAny_pure ?_
  with_unfolding_all refine fld ?_
  refine KPc.after_add g2 (lay_is (w := 3) e0) (KPc.obj_none rfl) ?_
  intro w3 g3
  replace g3 := KPc.good_mono g3 (show _ ≤ 113 from Nat.add_le_add_left (fmtX_len 3 e (.inl ⟨rfl, by omega⟩)) 110)
  refine KPc.turn ?_; kpc_check; (repeat kpc_if)
  refine wpAny_pure ?_
  refine KPc.after_add g3 (y := Str.ofString "-") (by decide +kernel) (KPc.obj_none (if_neg (by decide +kernel))) ?_
  intro w4 g4
  replace g4 := KPc.good_mono g4 (show _ ≤ 114 by decide +kernel)
  refine KPc.turn ?_; kpc_check; (repeat kpc_if)
  refine wpAny_bind ?_; refine wpAny_holding ?_; (repeat kpc_if)
  refine wpAny_bind (wpAny_of_eq (a := f) rfl ?_); (repeat kpc_if)
  refine wpAny_bind (wpAny_pure ?_)
  refine wpAny_pure ?_
  with_unfolding_all refine fld ?_
  refine KPc.after_add g4 (lay_is (w := 2) f0) (KPc.obj_none rfl) ?_
  intro w5 g5
  replace g5 := KPc.good_mono g5 (show _ ≤ 117 from Nat.add_le_add_left (fmtX_len 2 f (.inr ⟨rfl, by omega⟩)) 114)
  refine KPc.turn ?_; kpc_check; (repeat kpc_if)
  refine wpAny_pure ?_; kpc_if
  refine KPc.finish_ok g5 (by decide +kernel) rfl ?_
  assumption
end Mine
-- part IX
namespace Mine
open Builtin Builtin.Str
theorem mask {x : Int} (k : Nat) (h : 0 ≤ x) : Builtin.bitAnd x (((2 ^ k - 1 : Nat)) : Int) = x % (((2 ^ k : Nat)) : Int) := by
  rw [bitAnd_pp h (by omega)]
  obtain ⟨n, rfl⟩ := Int.eq_ofNat_of_zero_le h
  show (((n &&& (2 ^ k - 1) : Nat)) : Int) = _
  rw [Nat.and_two_pow_sub_one_eq_mod]
  rfl
theorem hex_is {i : Int} (h0 : 0 ≤ i) (h1 : i < 16) : hexT i = ⟨#[hexN i.toNat]⟩ :=
  fin_all (N := 16) (P := fun i => hexT i = ⟨#[hexN i.toNat]⟩) (by decide +kernel) i h0 h1
theorem dig_is {i : Int} (h0 : 0 ≤ i) (h1 : i < 4) : Str.ofString (toString i) = Txt.item (Str.ofString "0123") i :=
  fin_all (N := 4) (P := fun i => Str.ofString (toString i) = Txt.item (Str.ofString "0123") i) (by decide +kernel) i h0 h1
theorem text_eq {n : Int} (h0 : 0 ≤ n) (h1 : n < 16777216) :
    isoF ((Txt.charAt (Str.ofString "PCBU") (n.fdiv (2 ^ Int.toNat 22))).getD 0) (Builtin.bitAnd (n.fdiv (2 ^ Int.toNat 20)) 3) (Builtin.bitAnd (n.fdiv (2 ^ Int.toNat 8)) 4095) (Builtin.bitAnd n 255) = isoTxt n := by
  have e22 : n.fdiv (2 ^ Int.toNat 22) = n / 4194304 := Int.fdiv_eq_ediv_of_nonneg _ (by decide)
  have e20 : n.fdiv (2 ^ Int.toNat 20) = n / 1048576 := Int.fdiv_eq_ediv_of_nonneg _ (by decide)
  have e8 : n.fdiv (2 ^ Int.toNat 8) = n / 256 := Int.fdiv_eq_ediv_of_nonneg _ (by decide)
  have m3 : Builtin.bitAnd (n / 1048576) 3 = n / 1048576 % 4 := mask 2 (by omega)
  have m4095 : Builtin.bitAnd (n / 256) 4095 = n / 256 % 4096 := mask 12 (by omega)
  have m255 : Builtin.bitAnd n 255 = n % 256 := mask 8 h0
  rw [e22, e20, e8, m3, m4095, m255]
  unfold isoF isoTxt isoD isoC isoB isoA
  have f1 : n.fdiv 4194304 = n / 4194304 := Int.fdiv_eq_ediv_of_nonneg _ (by decide)
  have f2 : (n.fdiv 1048576).fmod 4 = n / 1048576 % 4 := by rw [Int.fdiv_eq_ediv_of_nonneg _ (by decide), Int.fmod_eq_emod_of_nonneg _ (by decide)]
  have f3 : (n.fdiv (256 * 256)).fmod 16 = n / 65536 % 16 := by rw [Int.fdiv_eq_ediv_of_nonneg _ (by decide), Int.fmod_eq_emod_of_nonneg _ (by decide)]; rfl
  have f4 : (n.fdiv (16 * 256)).fmod 16 = n / 4096 % 16 := by rw [Int.fdiv_eq_ediv_of_nonneg _ (by decide), Int.fmod_eq_emod_of_nonneg _ (by decide)]; rfl
  have f5 : (n.fdiv (1 * 256)).fmod 16 = n / 256 % 16 := by rw [Int.fdiv_eq_ediv_of_nonneg _ (by decide), Int.fmod_eq_emod_of_nonneg _ (by decide)]; rfl
  have f6 : (n.fdiv 16).fmod 16 = n / 16 % 16 := by rw [Int.fdiv_eq_ediv_of_nonneg _ (by decide), Int.fmod_eq_emod_of_nonneg _ (by decide)]
  have f7 : n.fmod 16 = n % 16 := Int.fmod_eq_emod_of_nonneg _ (by decide)
  rw [f1, f2, f3, f4, f5, f6, f7]
  rw [hex_is (i := n / 65536 % 16) (by omega) (by omega), hex_is (i := n / 4096 % 16) (by omega) (by omega), hex_is (i := n / 256 % 16) (by omega) (by omega), hex_is (i := n / 16 % 16) (by omega) (by omega), hex_is (i := n % 16) (by omega) (by omega),
    dig_is (i := n / 1048576 % 4) (by omega) (by omega), fx3 (i := (n / 256 % 4096).toNat) (by omega), fx2 (i := (n % 256).toNat) (by omega)]
  have g1 : (n / 256 % 4096).toNat / 256 = (n / 65536 % 16).toNat := by omega
  have g2 : (n / 256 % 4096).toNat / 16 % 16 = (n / 4096 % 16).toNat := by omega
  have g3 : (n / 256 % 4096).toNat % 16 = (n / 256 % 16).toNat := by omega
  have g4 : (n % 256).toNat / 16 = (n / 16 % 16).toNat := by omega
  have g5 : (n % 256).toNat % 16 = (n % 16).toNat := by omega
  rw [g1, g2, g3, g4, g5]
  apply congrArg Str.mk
  have hdash : (Str.ofString "-").cps = #[45] := by decide +kernel
  simp [Str.cps_append, Txt.item, hdash]
end Mine
-- part I3
namespace Mine
local macro_rules | `(tactic| k_room) => `(tactic| ktr_room)
local macro_rules | `(tactic| k_all) => `(tactic| assumption)
local macro_rules | `(tactic| k_mem) => `(tactic| assumption)
abbrev entV (w : World) (n : String) (t : Tok) (v : Value) : DictEntry := ⟨PyData.keyHash w.params (Str.ofString n), .str (Str.ofString n) t, v⟩
abbrev DD (w : World) (T : Nat → Tok) (n : Int) (tn : Tok) (st sn ed sv dc : Addr) : Obj :=
  dictOf [entV w "id" (T 0) (.int n tn), entV w "status" (T 1) (.ref st), entV w "snapshots" (T 2) (.ref sn), entV w "extended_data" (T 3) (.ref ed), entV w "severity" (T 4) (.ref sv), entV w "dtc_class" (T 5) (.ref dc), entV w "functional_unit" (T 6) .none, entV w "fault_counter" (T 7) .none] 8
theorem pick4 {prog : Program} {w : World} {A : Around} {E : Value → Shared → Prop} {s : Shared} {value slice : PySem.Expr} {l : Addr} {k : Int} {u t1 t2 t3 t4 : Tok} {Q : Value → Shared → Prop}
    (hl : s.heap.IsList l ([.str (Str.ofString "P") t1, .str (Str.ofString "C") t2, .str (Str.ofString "B") t3, .str (Str.ofString "U") t4] : List Value).toArray) (h0 : 0 ≤ k) (h4 : k < 4)
    (h : ∀ t, Q (.str ⟨#[(Txt.charAt (Str.ofString "PCBU") k).getD 0]⟩ t) s)
    (hs : subscripted slice false (.ref l) (.int k u) = operate [.ref l, .int k u] (getItem (.ref l) (.int k u)) := by with_unfolding_all rfl) :
    wpAny (model prog w) A (subscriptTail value slice (.ref l) (.int k u)) Q E s := by
  have hk : k = 0 ∨ k = 1 ∨ k = 2 ∨ k = 3 := by omega
  rcases hk with rfl | rfl | rfl | rfl
  · refine item_litK hl (by decide) (by decide) (v := .str (Str.ofString "P") t1) rfl ?_ hs
    have e : (⟨#[(Txt.charAt (Str.ofString "PCBU") 0).getD 0]⟩ : Str) = Str.ofString "P" := by decide +kernel
    rw [← e]; exact h t1
  · refine item_litK hl (by decide) (by decide) (v := .str (Str.ofString "C") t2) rfl ?_ hs
    have e : (⟨#[(Txt.charAt (Str.ofString "PCBU") 1).getD 0]⟩ : Str) = Str.ofString "C" := by decide +kernel
    rw [← e]; exact h t2
  · refine item_litK hl (by decide) (by decide) (v := .str (Str.ofString "B") t3) rfl ?_ hs
    have e : (⟨#[(Txt.charAt (Str.ofString "PCBU") 2).getD 0]⟩ : Str) = Str.ofString "B" := by decide +kernel
    rw [← e]; exact h t3
  · refine item_litK hl (by decide) (by decide) (v := .str (Str.ofString "U") t4) rfl ?_ hs
    have e : (⟨#[(Txt.charAt (Str.ofString "PCBU") 3).getD 0]⟩ : Str) = Str.ofString "U" := by decide +kernel
    rw [← e]; exact h t4
theorem div22 {n : Int} (h0 : 0 ≤ n) : n.fdiv (2 ^ (Int.toNat 22)) = n / 4194304 := Int.fdiv_eq_ediv_of_nonneg _ (by decide)
local macro_rules | `(tactic| walk_at "subscriptTail") => `(tactic| (k_here; (with_reducible show wpAny _ _ (subscriptTail _ _ (Value.ref _) (Value.int _ _)) _ _ _); (with_unfolding_all refine' pick4 ?k1 ?k2 ?k3 ?_ ?k6; (case k1 => is_list); (case k2 => rw [div22 (by assumption)]; omega); (case k3 => rw [div22 (by assumption)]; omega); (case k6 => with_unfolding_all rfl)); intro t9))
theorem iso_mod {prog : Program} {w : World} {A : Around} {E : Value → Shared → Prop} {s : Shared} {h₀ : Heap} {L b : Addr} {news : Led} {n : Int} {k : Nat} {t t1 u1 u2 u3 : Tok} {Q : Value → Shared → Prop} (h0 : 0 ≤ n) (h1 : n < 16777216)
    (N : News h₀ L s.heap news) (hb : (b, ({ cls := .type "tuple", data := .seq #[.str ⟨#[(Txt.charAt (Str.ofString "PCBU") (n.fdiv (2 ^ Int.toNat 22))).getD 0]⟩ t1, .int (Builtin.bitAnd (n.fdiv (2 ^ Int.toNat 20)) 3) u1, .int (Builtin.bitAnd (n.fdiv (2 ^ Int.toNat 8)) 4095) u2, .int (Builtin.bitAnd n 255) u3] k } : Obj)) ∈ news)
    (h : ∀ t' k, Q (.str (isoTxt n) t') { s with toks := k }) : wpAny (model prog w) A (binaryOp .Mod (.str (Str.ofString "%c%i%03X-%02X") t) (.ref b)) Q E s := by
  have e20 : n.fdiv (2 ^ Int.toNat 20) = n / 1048576 := Int.fdiv_eq_ediv_of_nonneg _ (by decide)
  have e8 : n.fdiv (2 ^ Int.toNat 8) = n / 256 := Int.fdiv_eq_ediv_of_nonneg _ (by decide)
  have m3 : Builtin.bitAnd (n.fdiv (2 ^ Int.toNat 20)) 3 = n / 1048576 % 4 := by rw [e20]; exact mask 2 (by omega)
  have m4095 : Builtin.bitAnd (n.fdiv (2 ^ Int.toNat 8)) 4095 = n / 256 % 4096 := by rw [e8]; exact mask 12 (by omega)
  have m255 : Builtin.bitAnd n 255 = n % 256 := mask 8 h0
  refine KPt.mod_tuple N hb (by decide +kernel) (fmt_meets (by rw [m3]; omega) (by rw [m3]; omega) (by rw [m4095]; omega) (by rw [m4095]; omega) (by rw [m255]; omega) (by rw [m255]; omega)) fun t' k => ?_
  rw [text_eq h0 h1]
  exact h t' k
local macro_rules | `(tactic| walk_at "binaryOp Mod str ref") => `(tactic| (k_here; k_dflt (refine' iso_mod ?h0 ?h1 ?N ?hb ?_; (case N => k_asm); (case hb => k_mem); (case h0 => assumption); (case h1 => assumption)); intro t9 k9))
local macro_rules | `(tactic| walk_at "binaryOp RShift int int") => `(tactic| (with_reducible refine rshift_int (by decide) ?_))
theorem idiso (w : World) {x dx : Addr} {T : Nat → Tok} {n : Int} {tn : Tok} {st sn ed sv dc : Addr} {news : Led} (h0 : 0 ≤ n) (h1 : n < 16777216) (hx : (x, instObj 297 dx) ∈ news) (hdx : (dx, DD w T n tn st sn ed sv dc) ∈ news) :
    Con 8 w 294 [.ref x] news (fun r m => (∃ t, r = .str (isoTxt n) t) ∧ news = m) := by
  unfold Con
  intro p loose mean mg mb dp un gd cn cs a ccd cl outer A₀ base h₀ L m s Q E B F X N TT hk hd hu hret
  refine wpAny_call ?_
  k_dflt cell_enter
  k_steps
  (with_reducible rename News _ _ _ _ => N9)
  exact hret _ _ _ _ ⟨⟨_, rfl⟩, rfl⟩ (by assumption) (fun p hp => N9 p (by simp only [List.mem_cons]; simp [hp]))
end Mine
-- part C8
namespace Mine
local macro_rules | `(tactic| k_room) => `(tactic| ktr_room)
local macro_rules | `(tactic| ktr_units) => `(tactic| (have hcL9 := cLine_is; (try simp only [units_in1, units_deeper, units_under_make, Around.mark_units, units_caller] at *); (try dsimp only [ktrTop] at *); omega))
local macro_rules | `(tactic| k_all) => `(tactic| assumption)
local macro_rules | `(tactic| k_all) => `(tactic| exact ne_of_allLt (by assumption))

local macro_rules | `(tactic| walk_at "call ref") => `(tactic| (k_here; (with_reducible show wpAny _ _ (call (Value.ref 126) _) _ _ _); k_dflt (refine' Con.use (mkz0 _) ?kB ?kF ?kX ?kN ?kT ?kK ?kd ?ku ?_; (case kB => k_asm); (case kF => k_asm); (case kX => k_asm); (case kN => k_asm); (case kT => k_asm); (case kK => exact rfl); (case kd => ktr_room); (case ku => ktr_units); k_whole); intro v9 n9 h9 tk9 e9 F9 N9; obtain ⟨x9, d9, T9, e9, e8, l1, l2⟩ := e9; subst e9; subst e8; (try k_lt l1); (try k_lt2 l2); (try k_sweep); (try dsimp only)))
local macro_rules | `(tactic| walk_at "call ref") => `(tactic| (k_here; (with_reducible show wpAny _ _ (call (Value.ref 187) _) _ _ _); k_dflt (refine' Con.use (mkz1 _) ?kB ?kF ?kX ?kN ?kT ?kK ?kd ?ku ?_; (case kB => k_asm); (case kF => k_asm); (case kX => k_asm); (case kN => k_asm); (case kT => k_asm); (case kK => exact rfl); (case kd => ktr_room); (case ku => ktr_units); k_whole); intro v9 n9 h9 tk9 e9 F9 N9; obtain ⟨x9, d9, T9, e9, e8, l1, l2⟩ := e9; subst e9; subst e8; (try k_lt l1); (try k_lt2 l2); (try k_sweep); (try dsimp only)))
local macro_rules | `(tactic| walk_at "call ref") => `(tactic| (k_here; (with_reducible show wpAny _ _ (call (Value.ref 276) _) _ _ _); k_dflt (refine' Con.use (mkz2 _) ?kB ?kF ?kX ?kN ?kT ?kK ?kd ?ku ?_; (case kB => k_asm); (case kF => k_asm); (case kX => k_asm); (case kN => k_asm); (case kT => k_asm); (case kK => exact rfl); (case kd => ktr_room); (case ku => ktr_units); k_whole); intro v9 n9 h9 tk9 e9 F9 N9; obtain ⟨x9, d9, T9, e9, e8, l1, l2⟩ := e9; subst e9; subst e8; (try k_lt l1); (try k_lt2 l2); (try k_sweep); (try dsimp only)))
theorem mkd (w : World) {n : Int} {t : Tok} {news : Led} :
    Con 12 w 297 [.int n t] news (fun r n' => ∃ x dx st std sn ed sv svd dc dcd c1 c2 T T0 T1 T2, r = .ref x ∧ n' = (dc, instObj 276 dcd) :: (dcd, D2 w T2 0) :: (sv, instObj 187 svd) :: (svd, D1 w T1 0) :: (ed, listOf #[] c2) :: (sn, listOf #[] c1) :: (st, instObj 126 std) :: (std, D0 w T0 0) :: (x, instObj 297 dx) :: (dx, DD w T n t st sn ed sv dc) :: news ∧
      (∀ p ∈ news, p.1 < dx) ∧ dx < x ∧ x < std ∧ std < st ∧ st < sn ∧ sn < ed ∧ ed < svd ∧ svd < sv ∧ sv < dcd ∧ dcd < dc) := by
  unfold Con
  intro p loose mean mg mb dp un gd cn cs a ccd cl outer A₀ base h₀ L m s Q E B F X N TT hk hd hu hret
  k_dflt (refine' call_cls ?k1 ?k2 ?k3 ?k4 ?k5 ?k6 ?_; (case k1 => k_asm); (case k2 => k_asm); (case k3 => k_asm); (case k4 => k_is); (case k5 => k_is); (case k6 => k_is); k_whole)
  intro x1 d1 h1 F1 N1 l1 l2
  replace l1 := allLt_of l1
  have l3 := ltN l2
  k_dflt (refine' code_def (binds := [(Str.ofString "self", Value.ref x1), (Str.ofString "dtcid", Value.int n t)]) ?k1 ?k2 ?k3 ?k4 ?k5 ?kA ?kF ?kK ?k6 ?k7 ?k8 ?k9 ?kB ?_ ?c2 ?c3 ?c4 ?c5; (case kA => exact rfl); (case kF => exact rfl); (case kK => assumption); (case k1 => k_asm); (case k2 => exact F1); (case k3 => k_asm); (case k4 => exact N1); (case k5 => k_asm); (case k6 => k_is); (case k7 => k_is); (case k8 => ktr_room); (case k9 => exact BindsTo.of_eq rfl); (case c5 => decide); (case kB => exact locs rfl); (case c2 => exact rfl); (case c3 => exact rfl); (case c4 => exact rfl); k_whole; intro g' L' h' FG' F' N' B' X' T'; (try dsimp only); (try k_lift B'); (try k_fold))
  clear F N F1 N1
  k_steps
  (with_reducible rename News _ _ _ _ => N9)
  refine hret _ _ _ _ ⟨_, _, _, _, _, _, _, _, _, _, _, _, toks8 _ _ _ _ _ _ _ _, _, _, _, rfl, rfl, allLt_mem l1, l2, ?o1, ?o2, ?o3, ?o4, ?o5, ?o6, ?o7, ?o8⟩ (by assumption) N9
  all_goals (show @LT.lt Nat _ _ _; omega)
end Mine
-- part C9
namespace Mine
local macro_rules | `(tactic| k_room) => `(tactic| ktr_room)
local macro_rules | `(tactic| k_all) => `(tactic| assumption)
local macro_rules | `(tactic| k_mem) => `(tactic| assumption)
theorem ok0 (k : Nat) : Ok k 0 := by
  match k with
  | 0 => exact ⟨by decide, by decide⟩
  | 1 => exact ⟨⟨by decide, by decide⟩, by decide⟩
  | _ + 2 => exact ⟨by decide, by decide⟩
theorem eq_txt {prog : Program} {w : World} {A : Around} {E : Value → Shared → Prop} {s : Shared} {a : Str} {t u : Tok} {Q : Value → Shared → Prop} (h : Q (.bool true) s) : wpAny (model prog w) A (compareOp .Eq (.str a t) (.str a u)) Q E s :=
  eq_str (by rw [show (a == a) = true by simp]; exact h)
local macro_rules | `(tactic| walk_at "compareOp Eq str str") => `(tactic| with_reducible refine eq_txt ?_)

local macro_rules | `(tactic| walk_at "call ref") => `(tactic| (k_here; (with_reducible show wpAny _ _ (call (Value.ref 334) [Value.int 0 _, Value.ref _, Value.int _ _]) _ _ _); k_dflt (refine' Con.use (same0 _ ?c1 ?c2 ?c3) ?kB ?kF ?kX ?kN ?kT ?kK ?kd ?ku ?_; (case kB => k_asm); (case kF => k_asm); (case kX => k_asm); (case kN => k_asm); (case kT => k_asm); (case kK => exact rfl); (case c2 => k_mem); (case c3 => k_mem); (case c1 => first | assumption | exact ok0 0); (case kd => ktr_room); (case ku => ktr_units); k_whole); intro v9 n9 h9 tk9 e9 F9 N9; obtain ⟨e9, e8⟩ := e9; subst e9; subst e8; (try k_sweep); (try dsimp only)))
local macro_rules | `(tactic| walk_at "call ref") => `(tactic| (k_here; (with_reducible show wpAny _ _ (call (Value.ref 334) [Value.int 1 _, Value.ref _, Value.int _ _]) _ _ _); k_dflt (refine' Con.use (same1 _ ?c1 ?c2 ?c3) ?kB ?kF ?kX ?kN ?kT ?kK ?kd ?ku ?_; (case kB => k_asm); (case kF => k_asm); (case kX => k_asm); (case kN => k_asm); (case kT => k_asm); (case kK => exact rfl); (case c2 => k_mem); (case c3 => k_mem); (case c1 => first | assumption | exact ok0 1); (case kd => ktr_room); (case ku => ktr_units); k_whole); intro v9 n9 h9 tk9 e9 F9 N9; obtain ⟨e9, e8⟩ := e9; subst e9; subst e8; (try k_sweep); (try dsimp only)))
local macro_rules | `(tactic| walk_at "call ref") => `(tactic| (k_here; (with_reducible show wpAny _ _ (call (Value.ref 334) [Value.int 2 _, Value.ref _, Value.int _ _]) _ _ _); k_dflt (refine' Con.use (same2 _ ?c1 ?c2 ?c3) ?kB ?kF ?kX ?kN ?kT ?kK ?kd ?ku ?_; (case kB => k_asm); (case kF => k_asm); (case kX => k_asm); (case kN => k_asm); (case kT => k_asm); (case kK => exact rfl); (case c2 => k_mem); (case c3 => k_mem); (case c1 => first | assumption | exact ok0 2); (case kd => ktr_room); (case ku => ktr_units); k_whole); intro v9 n9 h9 tk9 e9 F9 N9; obtain ⟨e9, e8⟩ := e9; subst e9; subst e8; (try k_sweep); (try dsimp only)))
local macro_rules | `(tactic| walk_at "call ref") => `(tactic| (k_here; (with_reducible show wpAny _ _ (call (Value.ref 294) _) _ _ _); k_dflt (refine' Con.use (idiso _ ?c0 ?c1 ?c2 ?c3) ?kB ?kF ?kX ?kN ?kT ?kK ?kd ?ku ?_; (case kB => k_asm); (case kF => k_asm); (case kX => k_asm); (case kN => k_asm); (case kT => k_asm); (case kK => exact rfl); (case c2 => k_mem); (case c3 => k_mem); (case c0 => assumption); (case c1 => assumption); (case kd => ktr_room); (case ku => ktr_units); k_whole); intro v9 n9 h9 tk9 e9 F9 N9; obtain ⟨⟨t9, e9⟩, e8⟩ := e9; subst e9; subst e8; (try k_sweep); (try dsimp only)))
local macro_rules | `(tactic| walk_at "call ref") => `(tactic| (k_here; (with_reducible show wpAny _ _ (call (Value.ref 367) _) _ _ _); k_dflt (refine' Con.use (iso _ ?c0 ?c1) ?kB ?kF ?kX ?kN ?kT ?kK ?kd ?ku ?_; (case kB => k_asm); (case kF => k_asm); (case kX => k_asm); (case kN => k_asm); (case kT => k_asm); (case kK => exact rfl); (case c0 => assumption); (case c1 => assumption); (case kd => ktr_room); (case ku => ktr_units); k_whole); intro v9 n9 h9 tk9 e9 F9 N9; obtain ⟨⟨t9, e9⟩, e8⟩ := e9; subst e9; subst e8; (try k_sweep); (try dsimp only)))
theorem fresh (w : World) {n : Int} {t tn : Tok} {news : Led} {x dx st std sn ed sv svd dc dcd : Addr} {c1 c2 : Nat} {T T0 T1 T2 : Nat → Tok} (h0 : 0 ≤ n) (h1 : n < 16777216)
    (hx : (x, instObj 297 dx) ∈ news) (hdx : (dx, DD w T n tn st sn ed sv dc) ∈ news) (hst : (st, instObj 126 std) ∈ news) (hstd : (std, D0 w T0 0) ∈ news) (hsn : (sn, listOf #[] c1) ∈ news) (hed : (ed, listOf #[] c2) ∈ news)
    (hsv : (sv, instObj 187 svd) ∈ news) (hsvd : (svd, D1 w T1 0) ∈ news) (hdc : (dc, instObj 276 dcd) ∈ news) (hdcd : (dcd, D2 w T2 0) ∈ news) :
    Con 18 w 374 [.ref x, .int n t] news (fun r n' => r = .bool true ∧ news = n') := by
  unfold Con
  intro p loose mean mg mb dp un gd cn cs a ccd cl outer A₀ base h₀ L m s Q E B F X N TT hk hd hu hret
  refine wpAny_call ?_
  k_dflt cell_enter
  k_steps
  (with_reducible rename News _ _ _ _ => N9)
  exact hret _ _ _ _ ⟨rfl, rfl⟩ (by assumption) (fun p hp => N9 p (by simp only [List.mem_cons]; simp [hp]))
end Mine
-- part SM
namespace Mine
def lastDef : List Stmt → Option (List Stmt × Scope)
  | [.FunctionDef _ _ b _ _ _ sc _ _ _] => some (b, sc)
  | _ :: r => lastDef r
  | [] => none
/-- the law's body and its names, read off the program -/
def lawX : (p : List Stmt × Scope) ×' (lastDef PySem.Challenge.pw_ff5034_01.main.body = some p) := ⟨_, rfl⟩
def forOf : Stmt → Option (List Stmt)
  | .For _ _ b _ _ => some b
  | _ => none
def nth : Nat → List Stmt → Option Stmt
  | 0, x :: _ => some x
  | n + 1, _ :: r => nth n r
  | _, [] => none
def scX : (p : Scope) ×' (some lawX.1.2 = some p) := ⟨_, rfl⟩
/-- the deed's statement -/
def ifX : (p : Stmt) ×' ((nth 3 lawX.1.1).bind forOf).bind (nth 3) = some p := ⟨_, rfl⟩

/-- what a statement of the law does in the law's own frame -/
def SCon (w : World) (st : Stmt) (m : Str → Option Value) (news : Led) (R : Flow → (Str → Option Value) → Led → Prop) : Prop :=
  ∀ (p : Program) (loose : List Str) (mean : ExcName → Option Value) (mg mb : Str → Option Value) (dp un : Nat) (gd : Option (List Code)) (a : Addr) (ccd : Value) (A₀ : Around) (h₀ : Heap) (L : Addr) (s : Shared) (Q : Flow → Shared → Prop) (E : Value → Shared → Prop),
    Below A₀ h₀ [] h₀ → Fr h₀ L s.heap m → (hd.heap_39 w.params).In h₀ → News h₀ L s.heap news → Top p loose mean mg mb h₀ →
    dp + 40 < recursionLimit → un + 400 < cLine →
    (∀ f m' news' h' tk', R f m' news' → Fr h₀ L h' m' → News h₀ L h' news' → Q f { s with heap := h', toks := tk' }) →
    wpAny (model P0 w) (ktrTop dp un gd (Str.ofString "law") scX.1 L a ccd [] []) (exec st (envOf (Str.ofString "law") scX.1 L a ccd)) Q E s
/-- a name's value, written out -/
theorem ov {m : Str → Option Value} {x : Str} {v : Value} (h : m x = some v) : m = fun z => if z = x then some v else m z := by
  funext z
  by_cases e : z = x
  · rw [if_pos e, e, h]
  · rw [if_neg e]
end Mine
-- part SK
namespace Mine
local macro_rules | `(tactic| k_room) => `(tactic| ktr_room)
def keep (k : Nat) (v : Int) : Int := match k with | 0 => v | 1 => v - v % 32 | _ => v % 32
local macro_rules | `(tactic| k_all) => `(tactic| assumption)
local macro_rules | `(tactic| k_ne) => `(tactic| first | assumption | exact Ne.symm (by assumption))
local macro_rules | `(tactic| walk_at "call ref") => `(tactic| (k_here; (with_reducible show wpAny _ _ (call (Value.ref 113) [Value.ref _, Value.int _ _]) _ _ _); k_dflt (refine' Con.use (sbi0 _ ?c0 ?c1 ?c2 ?c3) ?kB ?kF ?kX ?kN ?kT ?kK ?kd ?ku ?_; (case kB => k_asm); (case kF => k_asm); (case kX => k_asm); (case kN => k_asm); (case kT => k_asm); (case kK => exact rfl); (case c2 => k_mem); (case c0 => assumption); (case c1 => assumption); (case c3 => k_upd); (case kd => ktr_room); (case ku => ktr_units); k_whole); intro v9 n9 h9 tk9 e9 F9 N9; obtain ⟨e9, e8⟩ := e9; subst e9; subst e8; (try k_sweep); (try dsimp only)))
theorem keep0 (w : World) {v : Int} {t u : Tok} {news : Led} : Con 2 w 320 [.int v t, .int 0 u] news (fun r n' => (∃ t', r = .int v t') ∧ news = n') := by
  unfold Con
  intro p loose mean mg mb dp un gd cn cs a ccd cl outer A₀ base h₀ L m s Q E B F X N TT hk hd hu hret
  refine wpAny_call ?_
  k_dflt cell_enter
  k_steps
  exact hret _ _ _ _ ⟨⟨_, rfl⟩, rfl⟩ (by assumption) (by assumption)
theorem fmod32 (v : Int) : v.fmod 32 = v % 32 := Int.fmod_eq_emod_of_nonneg v (by decide)
theorem keep1 (w : World) {v : Int} {t u : Tok} {news : Led} (h0 : 0 ≤ v) (h1 : v < 256) : Con 2 w 320 [.int v t, .int 1 u] news (fun r n' => (∃ t', r = .int (v - v % 32) t') ∧ news = n') := by
  unfold Con
  intro p loose mean mg mb dp un gd cn cs a ccd cl outer A₀ base h₀ L m s Q E B F X N TT hk hd hu hret
  refine wpAny_call ?_
  k_dflt cell_enter
  k_steps
  exact hret _ _ _ _ ⟨⟨_, congrArg (fun x => Value.int (v - x) _) (fmod32 v)⟩, rfl⟩ (by assumption) (by assumption)
theorem keep2 (w : World) {v : Int} {t u : Tok} {news : Led} (h0 : 0 ≤ v) (h1 : v < 256) : Con 2 w 320 [.int v t, .int 2 u] news (fun r n' => (∃ t', r = .int (v % 32) t') ∧ news = n') := by
  unfold Con
  intro p loose mean mg mb dp un gd cn cs a ccd cl outer A₀ base h₀ L m s Q E B F X N TT hk hd hu hret
  refine wpAny_call ?_
  k_dflt cell_enter
  k_steps
  exact hret _ _ _ _ ⟨⟨_, congrArg (fun x => Value.int x _) (Int.fmod_eq_emod_of_nonneg v (by decide))⟩, rfl⟩ (by assumption) (by assumption)


def cls (k : Nat) : Addr := match k with | 0 => 126 | 1 => 187 | _ => 276
def DK (w : World) (k : Nat) (T : Nat → Tok) (v : Int) : Obj := match k with | 0 => D0 w T v | 1 => D1 w T v | _ => D2 w T v
/-- one thing of the law: its row, its flags' object, that object's dict -/
def chunk (w : World) (k : Nat) (r o d : Addr) (tk : Tok) (c : Nat) (T : Nat → Tok) (v : Int) (u : Tok) : Led :=
  [(r, listOf #[.int k tk, .ref o, .int v u] c), (o, instObj (cls k) d), (d, DK w k T v)]
def Apart3 (r o d : Addr) (rest : Led) : Prop := r ≠ o ∧ r ≠ d ∧ o ≠ d ∧ (∀ p ∈ rest, p.1 ≠ r) ∧ (∀ p ∈ rest, p.1 ≠ o) ∧ ∀ p ∈ rest, p.1 ≠ d
def DeedR (w : World) (k : Nat) (tl cl r : Addr) (tk : Tok) (c : Nat) (rest : Led) (f : Flow) (m' : Str → Option Value) (n' : Led) : Prop :=
  f = .next ∧ m' (Str.ofString "things") = some (.ref tl) ∧ m' (Str.ofString "codes") = some (.ref cl) ∧ ∃ o d T v u, n' = chunk w k r o d tk c T v u ++ rest ∧ Ok k v ∧ Apart3 r o d rest
theorem okk0 {v : Int} (h0 : 0 ≤ v) (h1 : v < 256) : Ok 0 v := ⟨h0, h1⟩
theorem okk1 {v : Int} (h0 : 0 ≤ v) (h1 : v < 256) : Ok 1 (v - v % 32) := ⟨⟨by omega, by omega⟩, by omega⟩
theorem okk2 {v : Int} (h0 : 0 ≤ v) (h1 : v < 256) : Ok 2 (v % 32) := ⟨by omega, by omega⟩
theorem ap_new {r o d x y : Addr} {a b c : Obj} {rest : Led} (l1 : ∀ p ∈ (r, a) :: (o, b) :: (d, c) :: rest, p.1 < y) (l2 : y < x) (hr : ∀ p ∈ rest, p.1 ≠ r) : Apart3 r x y rest := by
  have h1 : r < y := l1 _ (.head _)
  have h2 : ∀ p ∈ rest, p.1 < y := fun p hp => l1 p (.tail _ (.tail _ (.tail _ hp)))
  refine ⟨Nat.ne_of_lt (Nat.lt_trans h1 l2), Nat.ne_of_lt h1, Ne.symm (Nat.ne_of_lt l2), hr, fun p hp => Nat.ne_of_lt (Nat.lt_trans (h2 p hp) l2), fun p hp => Nat.ne_of_lt (h2 p hp)⟩
theorem news_pick {h₀ h : Heap} {L r o d : Addr} {a b c : Obj} {n rest : Led} (N : News h₀ L h n) (h1 : (r, a) ∈ n) (h2 : (o, b) ∈ n) (h3 : (d, c) ∈ n) (h4 : ∀ p ∈ rest, p ∈ n) : News h₀ L h ([(r, a), (o, b), (d, c)] ++ rest) := by
  intro p hp
  rcases List.mem_append.mp hp with hp | hp
  · rcases List.mem_cons.mp hp with rfl | hp
    · exact N _ h1
    · rcases List.mem_cons.mp hp with rfl | hp
      · exact N _ h2
      · exact (List.mem_singleton.mp hp) ▸ N _ h3
  · exact N _ (h4 p hp)
end Mine
-- part SB
namespace Mine
/-- the byte after one bit is set by hand -/
abbrev stv (p : Nat) (v0 v : Int) : Int := v0 + (v.fmod 2 - (v0.fdiv (2 ^ p)).fmod 2) * 2 ^ p
theorem st_all {p : Nat} {v0 v : Int} (h0 : 0 ≤ v0) (h1 : v0 < 256) (P : Int → Int → Prop) (h : ∀ n : Fin 256, ∀ b : Fin 2, P (n.val : Int) (b.val : Int)) : P v0 (v.fmod 2) := by
  have hb0 : 0 ≤ v.fmod 2 := by rw [Int.fmod_eq_emod_of_nonneg v (by decide)]; omega
  have hb1 : v.fmod 2 < (2 : Nat) := by rw [Int.fmod_eq_emod_of_nonneg v (by decide)]; omega
  exact fin_all (N := 256) (P := fun v0 => P v0 (v.fmod 2)) (fun n => fin_all (N := 2) (P := fun b => P (n.val : Int) b) (fun b => h n b) _ hb0 hb1) v0 h0 h1
theorem st_bits0 {v0 v : Int} (h : Ok 0 v0) : (∀ q : Fin 8, bit (stv 3 v0 v) q.val = if q.val = 3 then (v.fmod 2 == 1) else bit v0 q.val) ∧ (0 ≤ stv 3 v0 v ∧ stv 3 v0 v < 256) :=
  st_all (p := 3) h.lo h.hi (fun a b => (∀ q : Fin 8, bit (a + (b - (a.fdiv (2 ^ 3)).fmod 2) * 2 ^ 3) q.val = if q.val = 3 then (b == 1) else bit a q.val) ∧ (0 ≤ a + (b - (a.fdiv (2 ^ 3)).fmod 2) * 2 ^ 3 ∧ a + (b - (a.fdiv (2 ^ 3)).fmod 2) * 2 ^ 3 < 256)) (by decide +kernel)
theorem st_bits1 {v0 v : Int} (h : Ok 1 v0) : (∀ q : Fin 8, bit (stv 6 v0 v) q.val = if q.val = 6 then (v.fmod 2 == 1) else bit v0 q.val) ∧ (0 ≤ stv 6 v0 v ∧ stv 6 v0 v < 256) ∧ (stv 6 v0 v) % 32 = 0 := by
  have e : (∀ q : Fin 8, bit (stv 6 v0 v) q.val = if q.val = 6 then (v.fmod 2 == 1) else bit v0 q.val) ∧ (0 ≤ stv 6 v0 v ∧ stv 6 v0 v < 256) ∧ (stv 6 v0 v) % 32 = v0 % 32 :=
    st_all (p := 6) h.lo h.hi (fun a b => (∀ q : Fin 8, bit (a + (b - (a.fdiv (2 ^ 6)).fmod 2) * 2 ^ 6) q.val = if q.val = 6 then (b == 1) else bit a q.val) ∧ (0 ≤ a + (b - (a.fdiv (2 ^ 6)).fmod 2) * 2 ^ 6 ∧ a + (b - (a.fdiv (2 ^ 6)).fmod 2) * 2 ^ 6 < 256) ∧ (a + (b - (a.fdiv (2 ^ 6)).fmod 2) * 2 ^ 6) % 32 = a % 32) (by decide +kernel)
  exact ⟨e.1, e.2.1, e.2.2.trans h.2⟩
theorem st_bits2 {v0 v : Int} (h : Ok 2 v0) : (∀ q : Fin 8, bit (stv 2 v0 v) q.val = if q.val = 2 then (v.fmod 2 == 1) else bit v0 q.val) ∧ (0 ≤ stv 2 v0 v ∧ stv 2 v0 v < 32) := by
  have e : (∀ q : Fin 8, bit (stv 2 v0 v) q.val = if q.val = 2 then (v.fmod 2 == 1) else bit v0 q.val) ∧ (v0 < 32 → (0 ≤ stv 2 v0 v ∧ stv 2 v0 v < 32)) :=
    st_all (p := 2) h.lo h.hi (fun a b => (∀ q : Fin 8, bit (a + (b - (a.fdiv (2 ^ 2)).fmod 2) * 2 ^ 2) q.val = if q.val = 2 then (b == 1) else bit a q.val) ∧ (a < 32 → (0 ≤ a + (b - (a.fdiv (2 ^ 2)).fmod 2) * 2 ^ 2 ∧ a + (b - (a.fdiv (2 ^ 2)).fmod 2) * 2 ^ 2 < 32))) (by decide +kernel)
  exact ⟨e.1, e.2 h.2⟩
theorem stD0_of (w : World) {T : Nat → Tok} {v0 v : Int} (h : Ok 0 v0) : E0 w T (bit v0 0) (bit v0 1) (bit v0 2) (v.fmod 2 == 1) (bit v0 4) (bit v0 5) (bit v0 6) (bit v0 7) = D0 w T (stv 3 v0 v) :=
  stD0 w ((st_bits0 h).1 0) ((st_bits0 h).1 1) ((st_bits0 h).1 2) ((st_bits0 h).1 3) ((st_bits0 h).1 4) ((st_bits0 h).1 5) ((st_bits0 h).1 6) ((st_bits0 h).1 7)
theorem stD1_of (w : World) {T : Nat → Tok} {v0 v : Int} (h : Ok 1 v0) : E1 w T (bit v0 5) (v.fmod 2 == 1) (bit v0 7) = D1 w T (stv 6 v0 v) :=
  stD1 w ((st_bits1 h).1 5) ((st_bits1 h).1 6) ((st_bits1 h).1 7)
theorem stD2_of (w : World) {T : Nat → Tok} {v0 v : Int} (h : Ok 2 v0) : E2 w T (bit v0 0) (bit v0 1) (v.fmod 2 == 1) (bit v0 3) (bit v0 4) = D2 w T (stv 2 v0 v) :=
  stD2 w ((st_bits2 h).1 0) ((st_bits2 h).1 1) ((st_bits2 h).1 2) ((st_bits2 h).1 3) ((st_bits2 h).1 4)
theorem news_at3 {h₀ h : Heap} {L r o d : Addr} {a b c c' : Obj} {rest : Led} (N : News h₀ L h ((r, a) :: (o, b) :: (d, c) :: rest)) (e : c = c') : News h₀ L h ((r, a) :: (o, b) :: (d, c') :: rest) := e ▸ N
theorem news_tl {h₀ h : Heap} {L : Addr} {x : Addr × Obj} {n : Led} (N : News h₀ L h (x :: n)) : News h₀ L h n := fun p hp => N p (.tail _ hp)
end Mine
-- part DS
namespace Mine
local macro_rules | `(tactic| k_room) => `(tactic| ktr_room)
def elseOf : Stmt → Option (List Stmt)
  | .If _ _ b _ => some b
  | _ => none
def valOf : Stmt → Option Expr
  | .Assign _ e _ => some e
  | _ => none
def goElse (s : Stmt) : Option Stmt := (elseOf s).bind (nth 0)
/-- the number's expression -/
def nX : (p : Expr) ×' (((((((goElse ifX.1).bind goElse).bind goElse).bind goElse).bind goElse).bind valOf) = some p) := ⟨_, rfl⟩
theorem spot_bd : ∀ i : Nat, 0 ≤ ([0, 1, 255, 256, 1048575, 1048576, 4194303, 4194304, 8388608, 12582912, 16777215, 1193046] : List Int).getD i 0 ∧ ([0, 1, 255, 256, 1048575, 1048576, 4194303, 4194304, 8388608, 12582912, 16777215, 1193046] : List Int).getD i 0 < 16777216
  | 0 => by decide
  | 1 => by decide
  | 2 => by decide
  | 3 => by decide
  | 4 => by decide
  | 5 => by decide
  | 6 => by decide
  | 7 => by decide
  | 8 => by decide
  | 9 => by decide
  | 10 => by decide
  | 11 => by decide
  | _ + 12 => ⟨Int.le_refl 0, (by decide : (0 : Int) < 16777216)⟩
/-- the number that the seventh deed takes -/
theorem evn (w : World) {p : Program} {loose : List Str} {mean : ExcName → Option Value} {mg mb : Str → Option Value} {dp un : Nat} {gd : Option (List Code)} {a : Addr} {ccd : Value} {A₀ : Around} {h₀ : Heap} {L : Addr} {s : Shared} {Q E : Value → Shared → Prop} {m : Str → Option Value} {X v : Int} {tx t : Tok} {news : Led}
    (hX : m (Str.ofString "x") = some (.int X tx)) (hR : m (Str.ofString "raw") = some (.int v t)) (hX0 : 0 ≤ X) (hX1 : X < 1048576)
    (B : Below A₀ h₀ [] h₀) (F : Fr h₀ L s.heap m) (X₀ : (hd.heap_39 w.params).In h₀) (N : News h₀ L s.heap news) (TT : Top p loose mean mg mb h₀) (hd : dp + 40 < recursionLimit) (hu : un + 400 < cLine)
    (ret : ∀ c t k, 0 ≤ c → c < 16777216 → Q (.int c t) { s with toks := k }) :
    wpAny (model P0 w) (ktrTop dp un gd (Str.ofString "law") scX.1 L a ccd [] []) (eval nX.1 (envOf (Str.ofString "law") scX.1 L a ccd)) Q E s := by
  rw [ov hX, ov hR] at F
  dsimp only [nX, scX, lawX]
  k_steps
  · exact ret _ _ _ (spot_bd _).1 (spot_bd _).2
  · refine ret _ _ _ ?_ ?_
    · rw [Int.fmod_eq_emod_of_nonneg _ (by decide)]; omega
    · rw [Int.fmod_eq_emod_of_nonneg _ (by decide)]; omega
end Mine
-- part IV
namespace Mine
/-- one thing of the law -/
structure Th where
  k : Nat
  r : Addr
  o : Addr
  d : Addr
  tk : Tok
  c : Nat
  T : Nat → Tok
  v : Int
  u : Tok
abbrev Th.led (w : World) (t : Th) : Led := chunk w t.k t.r t.o t.d t.tk t.c t.T t.v t.u
/-- one trouble code that the law has made -/
structure Cd where
  row : Addr
  x : Addr
  dx : Addr
  st : Addr
  std : Addr
  sn : Addr
  ed : Addr
  sv : Addr
  svd : Addr
  dc : Addr
  dcd : Addr
  c0 : Nat
  c1 : Nat
  c2 : Nat
  n : Int
  v : Int
  tn : Tok
  tv : Tok
  T : Nat → Tok
  T0 : Nat → Tok
  T1 : Nat → Tok
  T2 : Nat → Tok
abbrev Cd.led (w : World) (c : Cd) : Led :=
  [(c.row, listOf #[.ref c.x, .int c.n c.tn, .int c.v c.tv] c.c0), (c.dc, instObj 276 c.dcd), (c.dcd, D2 w c.T2 (c.v % 32)), (c.sv, instObj 187 c.svd), (c.svd, D1 w c.T1 (c.v - c.v % 32)), (c.ed, listOf #[] c.c2),
   (c.sn, listOf #[.int c.n c.tn] c.c1), (c.st, instObj 126 c.std), (c.std, D0 w c.T0 c.v), (c.x, instObj 297 c.dx), (c.dx, DD w c.T c.n c.tn c.st c.sn c.ed c.sv c.dc)]
def Cd.ok (c : Cd) : Prop := (0 ≤ c.n ∧ c.n < 16777216) ∧ 0 ≤ c.v ∧ c.v < 256
def flatT (w : World) : List Th → Led
  | [] => []
  | t :: r => t.led w ++ flatT w r
def flatC (w : World) : List Cd → Led
  | [] => []
  | t :: r => t.led w ++ flatC w r
theorem flatT_append (w : World) : ∀ a b : List Th, flatT w (a ++ b) = flatT w a ++ flatT w b
  | [], _ => rfl
  | t :: a, b => by show t.led w ++ flatT w (a ++ b) = _; rw [flatT_append w a b]; exact (List.append_assoc ..).symm
theorem flatC_append (w : World) : ∀ a b : List Cd, flatC w (a ++ b) = flatC w a ++ flatC w b
  | [], _ => rfl
  | t :: a, b => by show t.led w ++ flatC w (a ++ b) = _; rw [flatC_append w a b]; exact (List.append_assoc ..).symm
theorem flatT_mem (w : World) {t : Th} : ∀ {l : List Th}, t ∈ l → ∀ p ∈ t.led w, p ∈ flatT w l
  | x :: l, h, p, hp => by
    show p ∈ x.led w ++ flatT w l
    rcases List.mem_cons.mp h with rfl | h
    · exact List.mem_append_left _ hp
    · exact List.mem_append_right _ (flatT_mem w h p hp)
theorem flatC_mem (w : World) {t : Cd} : ∀ {l : List Cd}, t ∈ l → ∀ p ∈ t.led w, p ∈ flatC w l
  | x :: l, h, p, hp => by
    show p ∈ x.led w ++ flatC w l
    rcases List.mem_cons.mp h with rfl | h
    · exact List.mem_append_left _ hp
    · exact List.mem_append_right _ (flatC_mem w h p hp)
abbrev refT (ts : List Th) : List Value := ts.map fun t => .ref t.r
abbrev refC (cs : List Cd) : List Value := cs.map fun c => .ref c.row
/-- the law's ledger: the things' list, the codes' list, the things, the codes, the rest -/
def layL (w : World) (tl cl : Addr) (a b : Nat) (ts : List Th) (cs : List Cd) (base : Led) : Led :=
  (tl, listOf (refT ts).toArray a) :: (cl, listOf (refC cs).toArray b) :: (flatT w ts ++ (flatC w cs ++ base))
def keys (n : Led) : List Addr := n.map Prod.fst
theorem keys_cons (p : Addr × Obj) (n : Led) : keys (p :: n) = p.1 :: keys n := rfl
theorem keys_append (a b : Led) : keys (a ++ b) = keys a ++ keys b := List.map_append
theorem mem_keys {n : Led} {x : Addr} : x ∉ keys n ↔ ∀ p ∈ n, p.1 ≠ x := by
  unfold keys
  simp only [List.mem_map, not_exists, not_and]
theorem nodup_perm {a b : Led} (p : a.Perm b) (h : (keys a).Nodup) : (keys b).Nodup := (p.map Prod.fst).nodup_iff.mp h
theorem apart_of {w : World} {t : Th} {rest : Led} (h : (keys (t.led w ++ rest)).Nodup) : Apart3 t.r t.o t.d rest := by
  simp only [Th.led, chunk, List.cons_append, List.nil_append, keys_cons, List.nodup_cons, List.mem_cons, not_or, mem_keys] at h
  obtain ⟨⟨a, b, c⟩, ⟨d, e⟩, f, g⟩ := h
  exact ⟨a, b, d, c, e, f⟩
theorem nodup_of {w : World} {t : Th} {rest : Led} (h : Apart3 t.r t.o t.d rest) (hr : (keys rest).Nodup) : (keys (t.led w ++ rest)).Nodup := by
  simp only [Th.led, chunk, List.cons_append, List.nil_append, keys_cons, List.nodup_cons, List.mem_cons, not_or, mem_keys]
  obtain ⟨a, b, d, c, e, f⟩ := h
  exact ⟨⟨a, b, c⟩, ⟨d, e⟩, f, hr⟩
theorem nodup_rest {w : World} {t : Th} {rest : Led} (h : (keys (t.led w ++ rest)).Nodup) : (keys rest).Nodup := by
  simp only [Th.led, chunk, List.cons_append, List.nil_append, keys_cons, List.nodup_cons] at h
  exact h.2.2.2
/-- all that stands beside one thing -/
def besides (w : World) (tl cl : Addr) (a b : Nat) (vs : List Value) (A B : List Th) (cs : List Cd) (base : Led) : Led :=
  (tl, listOf vs.toArray a) :: (cl, listOf (refC cs).toArray b) :: (flatT w A ++ (flatT w B ++ (flatC w cs ++ base)))
theorem lay_focus {w : World} {tl cl : Addr} {a b : Nat} {A B : List Th} {t : Th} {cs : List Cd} {base : Led} :
    (layL w tl cl a b (A ++ t :: B) cs base).Perm (t.led w ++ besides w tl cl a b (refT (A ++ t :: B)) A B cs base) := by
  unfold layL besides
  rw [flatT_append]
  show List.Perm (_ :: _ :: (flatT w A ++ (t.led w ++ flatT w B) ++ (flatC w cs ++ base))) _
  refine (List.Perm.cons _ (List.Perm.cons _ ?_)).trans ((List.perm_middle (l₁ := t.led w)).trans (List.Perm.cons _ List.perm_middle)).symm
  rw [List.append_assoc, List.append_assoc, ← List.append_assoc, ← List.append_assoc (t.led w)]
  exact List.perm_append_comm.append_right _
theorem refT_swap {A B : List Th} {t t' : Th} (h : t'.r = t.r) : refT (A ++ t' :: B) = refT (A ++ t :: B) := by
  simp [refT, h]
theorem kinds_swap {A B : List Th} {t t' : Th} (h : t'.k = t.k) : (A ++ t' :: B).map (·.k) = (A ++ t :: B).map (·.k) := by
  simp [h]
/-- the codes' list ahead -/
def beyond (w : World) (tl : Addr) (a : Nat) (ts : List Th) (cs : List Cd) (base : Led) : Led := (tl, listOf (refT ts).toArray a) :: (flatT w ts ++ (flatC w cs ++ base))
theorem lay_codes {w : World} {tl cl : Addr} {a b : Nat} {ts : List Th} {cs : List Cd} {base : Led} :
    (layL w tl cl a b ts cs base).Perm ((cl, listOf (refC cs).toArray b) :: beyond w tl a ts cs base) := List.Perm.swap ..
theorem lay_more {w : World} {tl cl : Addr} {a b' : Nat} {ts : List Th} {cs : List Cd} {c : Cd} {base : Led} :
    ((cl, listOf (refC (cs ++ [c])).toArray b') :: (c.led w ++ beyond w tl a ts cs base)).Perm (layL w tl cl a b' ts (cs ++ [c]) base) := by
  refine List.Perm.trans (List.Perm.cons _ ?_) lay_codes.symm
  unfold beyond
  refine List.perm_middle.trans (List.Perm.cons _ ?_)
  rw [flatC_append]
  show List.Perm _ (flatT w ts ++ (flatC w cs ++ (c.led w ++ []) ++ base))
  rw [List.append_nil, List.append_assoc]
  refine (List.perm_append_comm_assoc ..).trans (List.Perm.append_left _ ?_)
  exact List.perm_append_comm_assoc ..
/-- a fresh code's addresses -/
structure Cd.Up (c : Cd) (rest : Led) : Prop where
  a0 : ∀ p ∈ rest, @LT.lt Nat _ p.1 c.dx
  a1 : @LT.lt Nat _ c.dx c.x
  a2 : @LT.lt Nat _ c.x c.std
  a3 : @LT.lt Nat _ c.std c.st
  a4 : @LT.lt Nat _ c.st c.sn
  a5 : @LT.lt Nat _ c.sn c.ed
  a6 : @LT.lt Nat _ c.ed c.svd
  a7 : @LT.lt Nat _ c.svd c.sv
  a8 : @LT.lt Nat _ c.sv c.dcd
  a9 : @LT.lt Nat _ c.dcd c.dc
  b0 : @LT.lt Nat _ c.dc c.row
theorem Cd.Up.nodup {w : World} {c : Cd} {rest : Led} (u : c.Up rest) (h : (keys rest).Nodup) : (keys (c.led w ++ rest)).Nodup := by
  obtain ⟨a0, a1, a2, a3, a4, a5, a6, a7, a8, a9, b0⟩ := u
  have k : ∀ y : Nat, @LE.le Nat _ c.dx y → ∀ p ∈ rest, p.1 ≠ y := fun y hy p hp => Nat.ne_of_lt (Nat.lt_of_lt_of_le (a0 p hp) hy)
  simp only [Cd.led, List.cons_append, List.nil_append, keys_cons, List.nodup_cons, List.mem_cons, not_or, mem_keys]
  refine ⟨⟨?_, ?_, ?_, ?_, ?_, ?_, ?_, ?_, ?_, ?_, k _ ?_⟩, ⟨?_, ?_, ?_, ?_, ?_, ?_, ?_, ?_, ?_, k _ ?_⟩, ⟨?_, ?_, ?_, ?_, ?_, ?_, ?_, ?_, k _ ?_⟩, ⟨?_, ?_, ?_, ?_, ?_, ?_, ?_, k _ ?_⟩, ⟨?_, ?_, ?_, ?_, ?_, ?_, k _ ?_⟩, ⟨?_, ?_, ?_, ?_, ?_, k _ ?_⟩, ⟨?_, ?_, ?_, ?_, k _ ?_⟩, ⟨?_, ?_, ?_, k _ ?_⟩, ⟨?_, ?_, k _ ?_⟩, ⟨?_, k _ ?_⟩, k _ ?_, h⟩
  all_goals first | (show @Ne Nat _ _; omega) | (show @LE.le Nat _ _ _; omega)
end Mine
-- part D7
namespace Mine
local macro_rules | `(tactic| k_room) => `(tactic| ktr_room)
local macro_rules | `(tactic| k_all) => `(tactic| assumption)
local macro_rules | `(tactic| k_all) => `(tactic| exact ne_of_allLt (by assumption))
local macro_rules | `(tactic| k_ne) => `(tactic| first | assumption | exact Ne.symm (by assumption))
theorem ups {cl dx x std st sn ed svd sv dcd dc : Addr} {o : Obj} {rest : Led} (hcl : ∀ p ∈ rest, p.1 ≠ cl) (l0 : ∀ p ∈ (cl, o) :: rest, p.1 < dx) (l1 : @LT.lt Nat _ dx x) (l2 : @LT.lt Nat _ x std) (l3 : @LT.lt Nat _ std st) (l4 : @LT.lt Nat _ st sn) (l5 : @LT.lt Nat _ sn ed) (l6 : @LT.lt Nat _ ed svd) (l7 : @LT.lt Nat _ svd sv) (l8 : @LT.lt Nat _ sv dcd) (l9 : @LT.lt Nat _ dcd dc) :
    (∀ p ∈ rest, p.1 ≠ std) ∧ (∀ p ∈ rest, p.1 ≠ svd) ∧ (∀ p ∈ rest, p.1 ≠ dcd) ∧ (∀ p ∈ rest, p.1 ≠ sn) := by
  have h : ∀ p ∈ rest, @LT.lt Nat _ p.1 dx := fun p hp => l0 p (.tail _ hp)
  refine ⟨fun p hp => ?_, fun p hp => ?_, fun p hp => ?_, fun p hp => ?_⟩ <;> (have := h p hp; show @Ne Nat _ _; omega)
local macro_rules | `(tactic| walk_at "eval IfExp") => `(tactic| (k_here; k_dflt (refine' evn _ (X := _) (v := _) ?x1 ?x2 ?x3 ?x4 ?kB ?kF ?kX ?kN ?kT ?kd ?ku ?_; (case kF => k_asm); (case x1 => exact rfl); (case x2 => exact rfl); (case x3 => assumption); (case x4 => assumption); (case kB => k_asm); (case kX => k_asm); (case kN => k_asm); (case kT => k_asm); (case kd => assumption); (case ku => assumption); k_whole); intro c9 t9 k9 hc0 hc1; (try dsimp only)))
local macro_rules | `(tactic| walk_at "call ref") => `(tactic| (k_here; (with_reducible show wpAny _ _ (call (Value.ref 297) [Value.int _ _]) _ _ _); k_dflt (refine' Con.use (mkd _) ?kB ?kF ?kX ?kN ?kT ?kK ?kd ?ku ?_; (case kB => k_asm); (case kF => k_asm); (case kX => k_asm); (case kN => k_asm); (case kT => k_asm); (case kK => exact rfl);  (case kd => ktr_room); (case ku => ktr_units); k_whole); intro v9 n9 h9 tk9 e9 F9 N9; obtain ⟨x9, dx9, st9, std9, sn9, ed9, sv9, svd9, dc9, dcd9, c19, c29, T9, T09, T19, T29, e9, e8, l0, l1, l2, l3, l4, l5, l6, l7, l8, l9⟩ := e9; subst e9; subst e8; (replace l1 := ltN l1); (replace l2 := ltN l2); (replace l3 := ltN l3); (replace l4 := ltN l4); (replace l5 := ltN l5); (replace l6 := ltN l6); (replace l7 := ltN l7); (replace l8 := ltN l8); (replace l9 := ltN l9); (have q9 := ups (by assumption) l0 l1 l2 l3 l4 l5 l6 l7 l8 l9); (obtain ⟨q1, q2, q3, q4⟩ := q9); (try k_lt l0); (try k_sweep); (try dsimp only)))
local macro_rules | `(tactic| walk_at "call ref") => `(tactic| (k_here; (with_reducible show wpAny _ _ (call (Value.ref 374) [Value.ref _, Value.int _ _]) _ _ _); k_dflt (refine' Con.use (fresh _ ?c0 ?c1 ?m0 ?m1 ?m2 ?m3 ?m4 ?m5 ?m6 ?m7 ?m8 ?m9) ?kB ?kF ?kX ?kN ?kT ?kK ?kd ?ku ?_; (case kB => k_asm); (case kF => k_asm); (case kX => k_asm); (case kN => k_asm); (case kT => k_asm); (case kK => exact rfl); (case c0 => assumption); (case c1 => assumption); (case m0 => k_mem); (case m1 => k_mem); (case m2 => k_mem); (case m3 => k_mem); (case m4 => k_mem); (case m5 => k_mem); (case m6 => k_mem); (case m7 => k_mem); (case m8 => k_mem); (case m9 => k_mem); (case kd => ktr_room); (case ku => ktr_units); k_whole); intro v9 n9 h9 tk9 e9 F9 N9; obtain ⟨e9, e8⟩ := e9; subst e9; subst e8; (try k_sweep); (try dsimp only)))
local macro_rules | `(tactic| walk_at "call ref") => `(tactic| (k_here; (with_reducible show wpAny _ _ (call (Value.ref 113) [Value.ref _, Value.int _ _]) _ _ _); k_dflt (refine' Con.use (sbi0 _ ?c0 ?c1 ?c2 ?c3) ?kB ?kF ?kX ?kN ?kT ?kK ?kd ?ku ?_; (case kB => k_asm); (case kF => k_asm); (case kX => k_asm); (case kN => k_asm); (case kT => k_asm); (case kK => exact rfl); (case c0 => assumption); (case c1 => assumption); (case c2 => k_mem); (case c3 => k_upd); (case kd => ktr_room); (case ku => ktr_units); k_whole); intro v9 n9 h9 tk9 e9 F9 N9; obtain ⟨e9, e8⟩ := e9; subst e9; subst e8; (try k_sweep); (try dsimp only)))
local macro_rules | `(tactic| walk_at "call ref") => `(tactic| (k_here; (with_reducible show wpAny _ _ (call (Value.ref 166) [Value.ref _, Value.int _ _]) _ _ _); k_dflt (refine' Con.use (sbi1 _ ?c0 ?c1 ?c2 ?c3) ?kB ?kF ?kX ?kN ?kT ?kK ?kd ?ku ?_; (case kB => k_asm); (case kF => k_asm); (case kX => k_asm); (case kN => k_asm); (case kT => k_asm); (case kK => exact rfl); (case c0 => assumption); (case c1 => assumption); (case c2 => k_mem); (case c3 => k_upd); (case kd => ktr_room); (case ku => ktr_units); k_whole); intro v9 n9 h9 tk9 e9 F9 N9; obtain ⟨e9, e8⟩ := e9; subst e9; subst e8; (try k_sweep); (try dsimp only)))
local macro_rules | `(tactic| walk_at "call ref") => `(tactic| (k_here; (with_reducible show wpAny _ _ (call (Value.ref 255) [Value.ref _, Value.int _ _]) _ _ _); k_dflt (refine' Con.use (sbi2 _ ?c0 ?c1 ?c2 ?c3) ?kB ?kF ?kX ?kN ?kT ?kK ?kd ?ku ?_; (case kB => k_asm); (case kF => k_asm); (case kX => k_asm); (case kN => k_asm); (case kT => k_asm); (case kK => exact rfl); (case c0 => assumption); (case c1 => assumption); (case c2 => k_mem); (case c3 => k_upd); (case kd => ktr_room); (case ku => ktr_units); k_whole); intro v9 n9 h9 tk9 e9 F9 N9; obtain ⟨e9, e8⟩ := e9; subst e9; subst e8; (try k_sweep); (try dsimp only)))
theorem d7 (w : World) {v X : Int} {t td tx : Tok} {m : Str → Option Value} {tl cl : Addr} {n0 : Nat} {cs : List Value} {rest : Led} (h0 : 0 ≤ v) (h1 : v < 256) (hX0 : 0 ≤ X) (hX1 : X < 1048576)
    (hT : m (Str.ofString "things") = some (.ref tl)) (hC : m (Str.ofString "codes") = some (.ref cl)) (hD : m (Str.ofString "deed") = some (.int 7 td)) (hR : m (Str.ofString "raw") = some (.int v t)) (hX : m (Str.ofString "x") = some (.int X tx))
    (hcl : ∀ p ∈ rest, p.1 ≠ cl) (hcs : cs.length ≤ 100) :
    SCon w ifX.1 m ((cl, listOf cs.toArray n0) :: rest) (fun f m' n' => f = .next ∧ m' (Str.ofString "things") = some (.ref tl) ∧ m' (Str.ofString "codes") = some (.ref cl) ∧ ∃ c : Cd, c.ok ∧ c.Up ((cl, listOf cs.toArray n0) :: rest) ∧ n' = c.led w ++ (cl, listOf (cs ++ [Value.ref c.row]).toArray (n0 + 1)) :: rest) := by
  unfold SCon
  intro p loose mean mg mb dp un gd a ccd A₀ h₀ L s Q E B F X₀ N TT hd hu hret
  rw [ov hT, ov hC, ov hD, ov hR, ov hX] at F
  dsimp only [ifX, scX, lawX]
  k_steps
  (with_reducible rename News _ _ _ _ => N9)
  (with_reducible rename Fr _ _ _ _ => F9)
  (rename _ ∧ AllLt _ _ => A9)
  refine hret _ _ ?nn _ _ ?R F9 ?NN
  case NN => exact N9
  case R =>
    rw [List.push_toArray cs]
    refine ⟨rfl, rfl, rfl, ⟨_, _, _, _, _, _, _, _, _, _, _, _, _, _, _, _, _, _, _, _, _, _⟩, ?_, ?_, rfl⟩
    · exact ⟨⟨by assumption, by assumption⟩, h0, h1⟩
    · refine ⟨?_, ?_, ?_, ?_, ?_, ?_, ?_, ?_, ?_, ?_, ?_⟩
      · exact allLt_mem (by assumption)
      all_goals (dsimp only; first | (show @LT.lt Nat _ _ _; omega) | skip)
end Mine
-- part DA0
namespace Mine
local macro_rules | `(tactic| k_room) => `(tactic| ktr_room)
local macro_rules | `(tactic| k_all) => `(tactic| assumption)
local macro_rules | `(tactic| k_ne) => `(tactic| first | assumption | exact Ne.symm (by assumption))
local macro_rules | `(tactic| walk_at "setItem ref int") => `(tactic| (k_here; k_dflt (refine' ki_set (its := #[_, _, _]) ?F ?N ?a ?b ?e ?U ?_; (case F => k_asm); (case N => k_asm); (case U => k_upd); (case a => decide); (case b => decide); (case e => rfl)); ki_rest))
local macro_rules | `(tactic| walk_at "call ref") => `(tactic| (k_here; (with_reducible show wpAny _ _ (call (Value.ref 320) [Value.int _ _, Value.int 0 _]) _ _ _); k_dflt (refine' Con.use (keep0 _) ?kB ?kF ?kX ?kN ?kT ?kK ?kd ?ku ?_; (case kB => k_asm); (case kF => k_asm); (case kX => k_asm); (case kN => k_asm); (case kT => k_asm); (case kK => exact rfl);  (case kd => ktr_room); (case ku => ktr_units); k_whole); intro v9 n9 h9 tk9 e9 F9 N9; obtain ⟨⟨t9, e9⟩, e8⟩ := e9; subst e9; subst e8; (try k_sweep); (try dsimp only)))
local macro_rules | `(tactic| walk_at "call ref") => `(tactic| (k_here; (with_reducible show wpAny _ _ (call (Value.ref 113) [Value.ref _, Value.int _ _]) _ _ _); k_dflt (refine' Con.use (sbi0 _ ?c0 ?c1 ?c2 ?c3) ?kB ?kF ?kX ?kN ?kT ?kK ?kd ?ku ?_; (case kB => k_asm); (case kF => k_asm); (case kX => k_asm); (case kN => k_asm); (case kT => k_asm); (case kK => exact rfl); (case c0 => assumption); (case c1 => assumption); (case c2 => k_mem); (case c3 => k_upd); (case kd => ktr_room); (case ku => ktr_units); k_whole); intro v9 n9 h9 tk9 e9 F9 N9; obtain ⟨e9, e8⟩ := e9; subst e9; subst e8; (try k_sweep); (try dsimp only)))
local macro_rules | `(tactic| walk_at "call ref") => `(tactic| (k_here; (with_reducible show wpAny _ _ (call (Value.ref 113) [Value.ref _, Value.bytes _ _]) _ _ _); k_dflt (refine' Con.use (sbb0 _ ?c0 ?c1 ?c2 ?c3) ?kB ?kF ?kX ?kN ?kT ?kK ?kd ?ku ?_; (case kB => k_asm); (case kF => k_asm); (case kX => k_asm); (case kN => k_asm); (case kT => k_asm); (case kK => exact rfl); (case c0 => assumption); (case c1 => assumption); (case c2 => k_mem); (case c3 => k_upd); (case kd => ktr_room); (case ku => ktr_units); k_whole); intro v9 n9 h9 tk9 e9 F9 N9; obtain ⟨e9, e8⟩ := e9; subst e9; subst e8; (try k_sweep); (try dsimp only)))
local macro_rules | `(tactic| walk_at "call ref") => `(tactic| (k_here; (with_reducible show wpAny _ _ (call (Value.ref 341) [Value.int 0 _, Value.int _ _]) _ _ _); k_dflt (refine' Con.use (fri0 _ ?c0 ?c1) ?kB ?kF ?kX ?kN ?kT ?kK ?kd ?ku ?_; (case kB => k_asm); (case kF => k_asm); (case kX => k_asm); (case kN => k_asm); (case kT => k_asm); (case kK => exact rfl); (case c0 => assumption); (case c1 => assumption); (case kd => ktr_room); (case ku => ktr_units); k_whole); intro v9 n9 h9 tk9 e9 F9 N9; obtain ⟨x9, d9, T9, e9, e8, l1, l2⟩ := e9; subst e9; subst e8; (first | have ap9 := ap_new l1 l2 (by assumption) | have ap9 := ap_new (fun p hp => l1 p (List.mem_cons_of_mem _ hp)) l2 (by assumption)); (try k_lt l1); (try k_lt2 l2); (try k_sweep); (try dsimp only)))
local macro_rules | `(tactic| walk_at "call ref") => `(tactic| (k_here; (with_reducible show wpAny _ _ (call (Value.ref 341) [Value.int 0 _, Value.bytes _ _]) _ _ _); k_dflt (refine' Con.use (frb0 _ ?c0 ?c1) ?kB ?kF ?kX ?kN ?kT ?kK ?kd ?ku ?_; (case kB => k_asm); (case kF => k_asm); (case kX => k_asm); (case kN => k_asm); (case kT => k_asm); (case kK => exact rfl); (case c0 => assumption); (case c1 => assumption); (case kd => ktr_room); (case ku => ktr_units); k_whole); intro v9 n9 h9 tk9 e9 F9 N9; obtain ⟨x9, d9, T9, e9, e8, l1, l2⟩ := e9; subst e9; subst e8; (first | have ap9 := ap_new l1 l2 (by assumption) | have ap9 := ap_new (fun p hp => l1 p (List.mem_cons_of_mem _ hp)) l2 (by assumption)); (try k_lt l1); (try k_lt2 l2); (try k_sweep); (try dsimp only)))
local macro_rules | `(tactic| walk_at "call ref") => `(tactic| (k_here; (with_reducible show wpAny _ _ (call (Value.ref 346) [Value.int 0 _, Value.int _ _]) _ _ _); k_dflt (refine' Con.use (bu0 _ ?c0 ?c1) ?kB ?kF ?kX ?kN ?kT ?kK ?kd ?ku ?_; (case kB => k_asm); (case kF => k_asm); (case kX => k_asm); (case kN => k_asm); (case kT => k_asm); (case kK => exact rfl); (case c0 => assumption); (case c1 => assumption); (case kd => ktr_room); (case ku => ktr_units); k_whole); intro v9 n9 h9 tk9 e9 F9 N9; obtain ⟨x9, d9, T9, e9, e8, l1, l2⟩ := e9; subst e9; subst e8; (first | have ap9 := ap_new l1 l2 (by assumption) | have ap9 := ap_new (fun p hp => l1 p (List.mem_cons_of_mem _ hp)) l2 (by assumption)); (try k_lt l1); (try k_lt2 l2); (try k_sweep); (try dsimp only)))
theorem d0k0 (w : World) {v v0 : Int} {t tk td : Tok} {m : Str → Option Value} {r o d tl cl : Addr} {c : Nat} {T : Nat → Tok} {tk0 u0 : Tok} {rest : Led} (h0 : 0 ≤ v) (h1 : v < 256) (hv0 : Ok 0 v0)
    (hT : m (Str.ofString "things") = some (.ref tl)) (hC : m (Str.ofString "codes") = some (.ref cl)) (hD : m (Str.ofString "deed") = some (.int 0 td)) (hR : m (Str.ofString "raw") = some (.int v t))
    (hW : m (Str.ofString "row") = some (.ref r)) (hK : m (Str.ofString "kind") = some (.int 0 tk)) (hS : m (Str.ofString "s") = some (.ref o)) (ap : Apart3 r o d rest) :
    SCon w ifX.1 m (chunk w 0 r o d tk0 c T v0 u0 ++ rest) (DeedR w 0 tl cl r tk0 c rest) := by
  unfold SCon
  intro p loose mean mg mb dp un gd a ccd A₀ h₀ L s Q E B F X N TT hd hu hret
  obtain ⟨hro, hrd, hod, hr, ho, hd'⟩ := id ap
  replace N : News h₀ L s.heap ((r, listOf #[.int 0 tk0, .ref o, .int v0 u0] c) :: (o, instObj 126 d) :: (d, D0 w T v0) :: rest) := N
  rw [ov hT, ov hC, ov hD, ov hR, ov hW, ov hK, ov hS] at F
  dsimp only [ifX, scX, lawX]
  k_steps
  (with_reducible rename News _ _ _ _ => N9)
  exact hret _ _ _ _ _ ⟨rfl, rfl, rfl, _, _, _, _, _, rfl, (by first | assumption | exact okk0 h0 h1), ap⟩ (by assumption) N9
theorem d1k0 (w : World) {v v0 : Int} {t tk td : Tok} {m : Str → Option Value} {r o d tl cl : Addr} {c : Nat} {T : Nat → Tok} {tk0 u0 : Tok} {rest : Led} (h0 : 0 ≤ v) (h1 : v < 256) (hv0 : Ok 0 v0)
    (hT : m (Str.ofString "things") = some (.ref tl)) (hC : m (Str.ofString "codes") = some (.ref cl)) (hD : m (Str.ofString "deed") = some (.int 1 td)) (hR : m (Str.ofString "raw") = some (.int v t))
    (hW : m (Str.ofString "row") = some (.ref r)) (hK : m (Str.ofString "kind") = some (.int 0 tk)) (hS : m (Str.ofString "s") = some (.ref o)) (ap : Apart3 r o d rest) :
    SCon w ifX.1 m (chunk w 0 r o d tk0 c T v0 u0 ++ rest) (DeedR w 0 tl cl r tk0 c rest) := by
  unfold SCon
  intro p loose mean mg mb dp un gd a ccd A₀ h₀ L s Q E B F X N TT hd hu hret
  obtain ⟨hro, hrd, hod, hr, ho, hd'⟩ := id ap
  replace N : News h₀ L s.heap ((r, listOf #[.int 0 tk0, .ref o, .int v0 u0] c) :: (o, instObj 126 d) :: (d, D0 w T v0) :: rest) := N
  rw [ov hT, ov hC, ov hD, ov hR, ov hW, ov hK, ov hS] at F
  dsimp only [ifX, scX, lawX]
  k_steps
  (with_reducible rename News _ _ _ _ => N9)
  exact hret _ _ _ _ _ ⟨rfl, rfl, rfl, _, _, _, _, _, rfl, (by first | assumption | exact okk0 h0 h1), ap⟩ (by assumption) (fun p hp => N9 p (.tail _ hp))
theorem d3k0 (w : World) {v v0 : Int} {t tk td : Tok} {m : Str → Option Value} {r o d tl cl : Addr} {c : Nat} {T : Nat → Tok} {tk0 u0 : Tok} {rest : Led} (h0 : 0 ≤ v) (h1 : v < 256) (hv0 : Ok 0 v0)
    (hT : m (Str.ofString "things") = some (.ref tl)) (hC : m (Str.ofString "codes") = some (.ref cl)) (hD : m (Str.ofString "deed") = some (.int 3 td)) (hR : m (Str.ofString "raw") = some (.int v t))
    (hW : m (Str.ofString "row") = some (.ref r)) (hK : m (Str.ofString "kind") = some (.int 0 tk)) (hS : m (Str.ofString "s") = some (.ref o)) (ap : Apart3 r o d rest) :
    SCon w ifX.1 m (chunk w 0 r o d tk0 c T v0 u0 ++ rest) (DeedR w 0 tl cl r tk0 c rest) := by
  unfold SCon
  intro p loose mean mg mb dp un gd a ccd A₀ h₀ L s Q E B F X N TT hd hu hret
  obtain ⟨hro, hrd, hod, hr, ho, hd'⟩ := ap
  replace N : News h₀ L s.heap ((r, listOf #[.int 0 tk0, .ref o, .int v0 u0] c) :: (o, instObj 126 d) :: (d, D0 w T v0) :: rest) := N
  rw [ov hT, ov hC, ov hD, ov hR, ov hW, ov hK, ov hS] at F
  dsimp only [ifX, scX, lawX]
  k_steps
  (with_reducible rename News _ _ _ _ => N9)
  (with_reducible rename Apart3 _ _ _ _ => ap9)
  (with_reducible rename Fr _ _ _ _ => F9)
  refine hret _ _ ?nn _ _ ?R F9 ?NN
  case NN => exact news_pick (r := r) (rest := rest) (b := instObj 126 _) (c := D0 w _ v) N9 (by (repeat (first | exact List.mem_cons_self | refine List.mem_cons_of_mem _ ?_))) (by (repeat (first | exact List.mem_cons_self | refine List.mem_cons_of_mem _ ?_))) (by (repeat (first | exact List.mem_cons_self | refine List.mem_cons_of_mem _ ?_))) (by (intro p hp; (repeat (first | exact hp | refine List.mem_cons_of_mem _ ?_))))
  case R => exact ⟨rfl, rfl, rfl, _, _, _, _, _, rfl, okk0 h0 h1, ap9⟩
theorem d4k0 (w : World) {v v0 : Int} {t tk td : Tok} {m : Str → Option Value} {r o d tl cl : Addr} {c : Nat} {T : Nat → Tok} {tk0 u0 : Tok} {rest : Led} (h0 : 0 ≤ v) (h1 : v < 256) (hv0 : Ok 0 v0)
    (hT : m (Str.ofString "things") = some (.ref tl)) (hC : m (Str.ofString "codes") = some (.ref cl)) (hD : m (Str.ofString "deed") = some (.int 4 td)) (hR : m (Str.ofString "raw") = some (.int v t))
    (hW : m (Str.ofString "row") = some (.ref r)) (hK : m (Str.ofString "kind") = some (.int 0 tk)) (hS : m (Str.ofString "s") = some (.ref o)) (ap : Apart3 r o d rest) :
    SCon w ifX.1 m (chunk w 0 r o d tk0 c T v0 u0 ++ rest) (DeedR w 0 tl cl r tk0 c rest) := by
  unfold SCon
  intro p loose mean mg mb dp un gd a ccd A₀ h₀ L s Q E B F X N TT hd hu hret
  obtain ⟨hro, hrd, hod, hr, ho, hd'⟩ := ap
  replace N : News h₀ L s.heap ((r, listOf #[.int 0 tk0, .ref o, .int v0 u0] c) :: (o, instObj 126 d) :: (d, D0 w T v0) :: rest) := N
  rw [ov hT, ov hC, ov hD, ov hR, ov hW, ov hK, ov hS] at F
  dsimp only [ifX, scX, lawX]
  k_steps
  (with_reducible rename News _ _ _ _ => N9)
  (with_reducible rename Apart3 _ _ _ _ => ap9)
  (with_reducible rename Fr _ _ _ _ => F9)
  refine hret _ _ ?nn _ _ ?R F9 ?NN
  case NN => exact news_pick (r := r) (rest := rest) (b := instObj 126 _) (c := D0 w _ v) N9 (by (repeat (first | exact List.mem_cons_self | refine List.mem_cons_of_mem _ ?_))) (by (repeat (first | exact List.mem_cons_self | refine List.mem_cons_of_mem _ ?_))) (by (repeat (first | exact List.mem_cons_self | refine List.mem_cons_of_mem _ ?_))) (by (intro p hp; (repeat (first | exact hp | refine List.mem_cons_of_mem _ ?_))))
  case R => exact ⟨rfl, rfl, rfl, _, _, _, _, _, rfl, okk0 h0 h1, ap9⟩
theorem d5k0 (w : World) {v v0 : Int} {t tk td : Tok} {m : Str → Option Value} {r o d tl cl : Addr} {c : Nat} {T : Nat → Tok} {tk0 u0 : Tok} {rest : Led} (h0 : 0 ≤ v) (h1 : v < 256) (hv0 : Ok 0 v0)
    (hT : m (Str.ofString "things") = some (.ref tl)) (hC : m (Str.ofString "codes") = some (.ref cl)) (hD : m (Str.ofString "deed") = some (.int 5 td)) (hR : m (Str.ofString "raw") = some (.int v t))
    (hW : m (Str.ofString "row") = some (.ref r)) (hK : m (Str.ofString "kind") = some (.int 0 tk)) (hS : m (Str.ofString "s") = some (.ref o)) (ap : Apart3 r o d rest) :
    SCon w ifX.1 m (chunk w 0 r o d tk0 c T v0 u0 ++ rest) (DeedR w 0 tl cl r tk0 c rest) := by
  unfold SCon
  intro p loose mean mg mb dp un gd a ccd A₀ h₀ L s Q E B F X N TT hd hu hret
  obtain ⟨hro, hrd, hod, hr, ho, hd'⟩ := ap
  replace N : News h₀ L s.heap ((r, listOf #[.int 0 tk0, .ref o, .int v0 u0] c) :: (o, instObj 126 d) :: (d, D0 w T v0) :: rest) := N
  rw [ov hT, ov hC, ov hD, ov hR, ov hW, ov hK, ov hS] at F
  dsimp only [ifX, scX, lawX]
  k_steps
  (with_reducible rename News _ _ _ _ => N9)
  (with_reducible rename Apart3 _ _ _ _ => ap9)
  (with_reducible rename Fr _ _ _ _ => F9)
  refine hret _ _ ?nn _ _ ?R F9 ?NN
  case NN => exact news_pick (r := r) (rest := rest) (b := instObj 126 _) (c := D0 w _ v) N9 (by (repeat (first | exact List.mem_cons_self | refine List.mem_cons_of_mem _ ?_))) (by (repeat (first | exact List.mem_cons_self | refine List.mem_cons_of_mem _ ?_))) (by (repeat (first | exact List.mem_cons_self | refine List.mem_cons_of_mem _ ?_))) (by (intro p hp; (repeat (first | exact hp | refine List.mem_cons_of_mem _ ?_))))
  case R => exact ⟨rfl, rfl, rfl, _, _, _, _, _, rfl, okk0 h0 h1, ap9⟩
theorem d6k0 (w : World) {v v0 : Int} {t tk td : Tok} {m : Str → Option Value} {r o d tl cl : Addr} {c : Nat} {T : Nat → Tok} {tk0 u0 : Tok} {rest : Led} (h0 : 0 ≤ v) (h1 : v < 256) (hv0 : Ok 0 v0)
    (hT : m (Str.ofString "things") = some (.ref tl)) (hC : m (Str.ofString "codes") = some (.ref cl)) (hD : m (Str.ofString "deed") = some (.int 6 td)) (hR : m (Str.ofString "raw") = some (.int v t))
    (hW : m (Str.ofString "row") = some (.ref r)) (hK : m (Str.ofString "kind") = some (.int 0 tk)) (hS : m (Str.ofString "s") = some (.ref o)) (ap : Apart3 r o d rest) :
    SCon w ifX.1 m (chunk w 0 r o d tk0 c T v0 u0 ++ rest) (DeedR w 0 tl cl r tk0 c rest) := by
  unfold SCon
  intro p loose mean mg mb dp un gd a ccd A₀ h₀ L s Q E B F X N TT hd hu hret
  obtain ⟨hro, hrd, hod, hr, ho, hd'⟩ := id ap
  replace N : News h₀ L s.heap ((r, listOf #[.int 0 tk0, .ref o, .int v0 u0] c) :: (o, instObj 126 d) :: (d, D0 w T v0) :: rest) := N
  rw [ov hT, ov hC, ov hD, ov hR, ov hW, ov hK, ov hS] at F
  dsimp only [ifX, scX, lawX]
  k_steps
  (with_reducible rename News _ _ _ _ => N9)
  (with_reducible rename Fr _ _ _ _ => F9)
  refine hret _ _ ?nn _ _ ?R F9 ?NN
  case NN => exact news_at3 (news_tl N9) (stD0_of w (v := v) hv0)
  case R => exact ⟨rfl, rfl, rfl, _, _, _, stv 3 v0 v, _, rfl, (st_bits0 hv0).2, ap⟩
local macro_rules | `(tactic| walk_at "subscriptTail Name BinOp ref int") => `(tactic| ((with_reducible rename @Eq Int (Int.fmod _ 5) _ => h59); (simp only [h59])))
local macro_rules | `(tactic| walk_at "call ref") => `(tactic| (k_here; (with_reducible show wpAny _ _ (call (Value.ref 360) [Value.ref _, Value.str _ _]) _ _ _); k_dflt (refine' ConL.use (bas0 _ ?c0 ?c1) ?kB ?kF ?kX ?kN ?kT ?kK ?kd ?ku ?_; (case kB => k_asm); (case kF => k_asm); (case kX => k_asm); (case kN => k_asm); (case kT => k_asm); (case kK => exact rfl); (case c0 => k_mem); (case c1 => k_mem); (case kd => ktr_room); (case ku => ktr_units); k_whole); intro v9 n9 h9 tk9 e9 F9 N9; obtain ⟨e9, e8⟩ := e9; subst e9; subst e8; (try k_sweep); (try dsimp only)))
theorem d2k0_0 (w : World) {v v0 : Int} {t tk td : Tok} {m : Str → Option Value} {r o d tl cl : Addr} {c : Nat} {T : Nat → Tok} {tk0 u0 : Tok} {rest : Led} (h5 : v.fmod 5 = 0) (hv0 : Ok 0 v0)
    (hT : m (Str.ofString "things") = some (.ref tl)) (hC : m (Str.ofString "codes") = some (.ref cl)) (hD : m (Str.ofString "deed") = some (.int 2 td)) (hR : m (Str.ofString "raw") = some (.int v t))
    (hS : m (Str.ofString "s") = some (.ref o)) (ap : Apart3 r o d rest) :
    SCon w ifX.1 m (chunk w 0 r o d tk0 c T v0 u0 ++ rest) (DeedR w 0 tl cl r tk0 c rest) := by
  unfold SCon
  intro p loose mean mg mb dp un gd a ccd A₀ h₀ L s Q E B F X N TT hd hu hret
  replace N : News h₀ L s.heap ((r, listOf #[.int 0 tk0, .ref o, .int v0 u0] c) :: (o, instObj 126 d) :: (d, D0 w T v0) :: rest) := N
  rw [ov hT, ov hC, ov hD, ov hR, ov hS] at F
  dsimp only [ifX, scX, lawX]
  k_steps
  (with_reducible rename News _ _ _ _ => N9)
  (with_reducible rename Fr _ _ _ _ => F9)
  exact hret _ _ _ _ _ ⟨rfl, rfl, rfl, _, _, T, v0, u0, rfl, hv0, ap⟩ F9 N9
local macro_rules | `(tactic| walk_at "call ref") => `(tactic| (k_here; (with_reducible show wpAny _ _ (call (Value.ref 360) [Value.ref _, Value.none]) _ _ _); k_dflt (refine' ConL.use (ban0 _ ?c0 ?c1) ?kB ?kF ?kX ?kN ?kT ?kK ?kd ?ku ?_; (case kB => k_asm); (case kF => k_asm); (case kX => k_asm); (case kN => k_asm); (case kT => k_asm); (case kK => exact rfl); (case c0 => k_mem); (case c1 => k_mem); (case kd => ktr_room); (case ku => ktr_units); k_whole); intro v9 n9 h9 tk9 e9 F9 N9; obtain ⟨e9, e8⟩ := e9; subst e9; subst e8; (try k_sweep); (try dsimp only)))
theorem d2k0_1 (w : World) {v v0 : Int} {t tk td : Tok} {m : Str → Option Value} {r o d tl cl : Addr} {c : Nat} {T : Nat → Tok} {tk0 u0 : Tok} {rest : Led} (h5 : v.fmod 5 = 1) (hv0 : Ok 0 v0)
    (hT : m (Str.ofString "things") = some (.ref tl)) (hC : m (Str.ofString "codes") = some (.ref cl)) (hD : m (Str.ofString "deed") = some (.int 2 td)) (hR : m (Str.ofString "raw") = some (.int v t))
    (hS : m (Str.ofString "s") = some (.ref o)) (ap : Apart3 r o d rest) :
    SCon w ifX.1 m (chunk w 0 r o d tk0 c T v0 u0 ++ rest) (DeedR w 0 tl cl r tk0 c rest) := by
  unfold SCon
  intro p loose mean mg mb dp un gd a ccd A₀ h₀ L s Q E B F X N TT hd hu hret
  replace N : News h₀ L s.heap ((r, listOf #[.int 0 tk0, .ref o, .int v0 u0] c) :: (o, instObj 126 d) :: (d, D0 w T v0) :: rest) := N
  rw [ov hT, ov hC, ov hD, ov hR, ov hS] at F
  dsimp only [ifX, scX, lawX]
  k_steps
  (with_reducible rename News _ _ _ _ => N9)
  (with_reducible rename Fr _ _ _ _ => F9)
  exact hret _ _ _ _ _ ⟨rfl, rfl, rfl, _, _, T, v0, u0, rfl, hv0, ap⟩ F9 N9
local macro_rules | `(tactic| walk_at "call ref") => `(tactic| (k_here; (with_reducible show wpAny _ _ (call (Value.ref 360) [Value.ref _, Value.ref 306]) _ _ _); k_dflt (refine' ConL.use (bal0 _ ?c0 ?c1) ?kB ?kF ?kX ?kN ?kT ?kK ?kd ?ku ?_; (case kB => k_asm); (case kF => k_asm); (case kX => k_asm); (case kN => k_asm); (case kT => k_asm); (case kK => exact rfl); (case c0 => k_mem); (case c1 => k_mem); (case kd => ktr_room); (case ku => ktr_units); k_whole); intro v9 n9 h9 tk9 e9 F9 N9; obtain ⟨e9, e8⟩ := e9; subst e9; subst e8; (try k_sweep); (try dsimp only)))
theorem d2k0_2 (w : World) {v v0 : Int} {t tk td : Tok} {m : Str → Option Value} {r o d tl cl : Addr} {c : Nat} {T : Nat → Tok} {tk0 u0 : Tok} {rest : Led} (h5 : v.fmod 5 = 2) (hv0 : Ok 0 v0)
    (hT : m (Str.ofString "things") = some (.ref tl)) (hC : m (Str.ofString "codes") = some (.ref cl)) (hD : m (Str.ofString "deed") = some (.int 2 td)) (hR : m (Str.ofString "raw") = some (.int v t))
    (hS : m (Str.ofString "s") = some (.ref o)) (ap : Apart3 r o d rest) :
    SCon w ifX.1 m (chunk w 0 r o d tk0 c T v0 u0 ++ rest) (DeedR w 0 tl cl r tk0 c rest) := by
  unfold SCon
  intro p loose mean mg mb dp un gd a ccd A₀ h₀ L s Q E B F X N TT hd hu hret
  replace N : News h₀ L s.heap ((r, listOf #[.int 0 tk0, .ref o, .int v0 u0] c) :: (o, instObj 126 d) :: (d, D0 w T v0) :: rest) := N
  rw [ov hT, ov hC, ov hD, ov hR, ov hS] at F
  dsimp only [ifX, scX, lawX]
  k_steps
  (with_reducible rename News _ _ _ _ => N9)
  (with_reducible rename Fr _ _ _ _ => F9)
  exact hret _ _ _ _ _ ⟨rfl, rfl, rfl, _, _, T, v0, u0, rfl, hv0, ap⟩ F9 N9
local macro_rules | `(tactic| walk_at "call ref") => `(tactic| (k_here; (with_reducible show wpAny _ _ (call (Value.ref 360) [Value.ref _, Value.bytes #[] _]) _ _ _); k_dflt (refine' ConL.use (bae0 _ ?c0 ?c1) ?kB ?kF ?kX ?kN ?kT ?kK ?kd ?ku ?_; (case kB => k_asm); (case kF => k_asm); (case kX => k_asm); (case kN => k_asm); (case kT => k_asm); (case kK => exact rfl); (case c0 => k_mem); (case c1 => k_mem); (case kd => ktr_room); (case ku => ktr_units); k_whole); intro v9 n9 h9 tk9 e9 F9 N9; obtain ⟨e9, e8⟩ := e9; subst e9; subst e8; (try k_sweep); (try dsimp only)))
theorem d2k0_3 (w : World) {v v0 : Int} {t tk td : Tok} {m : Str → Option Value} {r o d tl cl : Addr} {c : Nat} {T : Nat → Tok} {tk0 u0 : Tok} {rest : Led} (h5 : v.fmod 5 = 3) (hv0 : Ok 0 v0)
    (hT : m (Str.ofString "things") = some (.ref tl)) (hC : m (Str.ofString "codes") = some (.ref cl)) (hD : m (Str.ofString "deed") = some (.int 2 td)) (hR : m (Str.ofString "raw") = some (.int v t))
    (hS : m (Str.ofString "s") = some (.ref o)) (ap : Apart3 r o d rest) :
    SCon w ifX.1 m (chunk w 0 r o d tk0 c T v0 u0 ++ rest) (DeedR w 0 tl cl r tk0 c rest) := by
  unfold SCon
  intro p loose mean mg mb dp un gd a ccd A₀ h₀ L s Q E B F X N TT hd hu hret
  replace N : News h₀ L s.heap ((r, listOf #[.int 0 tk0, .ref o, .int v0 u0] c) :: (o, instObj 126 d) :: (d, D0 w T v0) :: rest) := N
  rw [ov hT, ov hC, ov hD, ov hR, ov hS] at F
  dsimp only [ifX, scX, lawX]
  k_steps
  (with_reducible rename News _ _ _ _ => N9)
  (with_reducible rename Fr _ _ _ _ => F9)
  exact hret _ _ _ _ _ ⟨rfl, rfl, rfl, _, _, T, v0, u0, rfl, hv0, ap⟩ F9 N9
local macro_rules | `(tactic| walk_at "call ref") => `(tactic| (k_here; (with_reducible show wpAny _ _ (call (Value.ref 360) [Value.ref _, Value.bytes _ _]) _ _ _); k_dflt (refine' ConL.use (bat0 _ ?c0 ?c1) ?kB ?kF ?kX ?kN ?kT ?kK ?kd ?ku ?_; (case kB => k_asm); (case kF => k_asm); (case kX => k_asm); (case kN => k_asm); (case kT => k_asm); (case kK => exact rfl); (case c0 => k_mem); (case c1 => k_mem); (case kd => ktr_room); (case ku => ktr_units); k_whole); intro v9 n9 h9 tk9 e9 F9 N9; obtain ⟨e9, e8⟩ := e9; subst e9; subst e8; (try k_sweep); (try dsimp only)))
theorem d2k0_4 (w : World) {v v0 : Int} {t tk td : Tok} {m : Str → Option Value} {r o d tl cl : Addr} {c : Nat} {T : Nat → Tok} {tk0 u0 : Tok} {rest : Led} (h5 : v.fmod 5 = 4) (hv0 : Ok 0 v0)
    (hT : m (Str.ofString "things") = some (.ref tl)) (hC : m (Str.ofString "codes") = some (.ref cl)) (hD : m (Str.ofString "deed") = some (.int 2 td)) (hR : m (Str.ofString "raw") = some (.int v t))
    (hS : m (Str.ofString "s") = some (.ref o)) (ap : Apart3 r o d rest) :
    SCon w ifX.1 m (chunk w 0 r o d tk0 c T v0 u0 ++ rest) (DeedR w 0 tl cl r tk0 c rest) := by
  unfold SCon
  intro p loose mean mg mb dp un gd a ccd A₀ h₀ L s Q E B F X N TT hd hu hret
  replace N : News h₀ L s.heap ((r, listOf #[.int 0 tk0, .ref o, .int v0 u0] c) :: (o, instObj 126 d) :: (d, D0 w T v0) :: rest) := N
  rw [ov hT, ov hC, ov hD, ov hR, ov hS] at F
  dsimp only [ifX, scX, lawX]
  k_steps
  (with_reducible rename News _ _ _ _ => N9)
  (with_reducible rename Fr _ _ _ _ => F9)
  exact hret _ _ _ _ _ ⟨rfl, rfl, rfl, _, _, T, v0, u0, rfl, hv0, ap⟩ F9 N9
end Mine
-- part DA1
namespace Mine
local macro_rules | `(tactic| k_room) => `(tactic| ktr_room)
local macro_rules | `(tactic| k_all) => `(tactic| assumption)
local macro_rules | `(tactic| k_ne) => `(tactic| first | assumption | exact Ne.symm (by assumption))
local macro_rules | `(tactic| walk_at "setItem ref int") => `(tactic| (k_here; k_dflt (refine' ki_set (its := #[_, _, _]) ?F ?N ?a ?b ?e ?U ?_; (case F => k_asm); (case N => k_asm); (case U => k_upd); (case a => decide); (case b => decide); (case e => rfl)); ki_rest))
local macro_rules | `(tactic| walk_at "call ref") => `(tactic| (k_here; (with_reducible show wpAny _ _ (call (Value.ref 320) [Value.int _ _, Value.int 1 _]) _ _ _); k_dflt (refine' Con.use (keep1 _ ?c0 ?c1) ?kB ?kF ?kX ?kN ?kT ?kK ?kd ?ku ?_; (case kB => k_asm); (case kF => k_asm); (case kX => k_asm); (case kN => k_asm); (case kT => k_asm); (case kK => exact rfl); (case c0 => assumption); (case c1 => assumption); (case kd => ktr_room); (case ku => ktr_units); k_whole); intro v9 n9 h9 tk9 e9 F9 N9; obtain ⟨⟨t9, e9⟩, e8⟩ := e9; subst e9; subst e8; (try k_sweep); (try dsimp only)))
local macro_rules | `(tactic| walk_at "call ref") => `(tactic| (k_here; (with_reducible show wpAny _ _ (call (Value.ref 166) [Value.ref _, Value.int _ _]) _ _ _); k_dflt (refine' Con.use (sbi1 _ ?c0 ?c1 ?c2 ?c3) ?kB ?kF ?kX ?kN ?kT ?kK ?kd ?ku ?_; (case kB => k_asm); (case kF => k_asm); (case kX => k_asm); (case kN => k_asm); (case kT => k_asm); (case kK => exact rfl); (case c0 => assumption); (case c1 => assumption); (case c2 => k_mem); (case c3 => k_upd); (case kd => ktr_room); (case ku => ktr_units); k_whole); intro v9 n9 h9 tk9 e9 F9 N9; obtain ⟨e9, e8⟩ := e9; subst e9; subst e8; (try k_sweep); (try dsimp only)))
local macro_rules | `(tactic| walk_at "call ref") => `(tactic| (k_here; (with_reducible show wpAny _ _ (call (Value.ref 166) [Value.ref _, Value.bytes _ _]) _ _ _); k_dflt (refine' Con.use (sbb1 _ ?c0 ?c1 ?c2 ?c3) ?kB ?kF ?kX ?kN ?kT ?kK ?kd ?ku ?_; (case kB => k_asm); (case kF => k_asm); (case kX => k_asm); (case kN => k_asm); (case kT => k_asm); (case kK => exact rfl); (case c0 => assumption); (case c1 => assumption); (case c2 => k_mem); (case c3 => k_upd); (case kd => ktr_room); (case ku => ktr_units); k_whole); intro v9 n9 h9 tk9 e9 F9 N9; obtain ⟨e9, e8⟩ := e9; subst e9; subst e8; (try k_sweep); (try dsimp only)))
local macro_rules | `(tactic| walk_at "call ref") => `(tactic| (k_here; (with_reducible show wpAny _ _ (call (Value.ref 341) [Value.int 1 _, Value.int _ _]) _ _ _); k_dflt (refine' Con.use (fri1 _ ?c0 ?c1) ?kB ?kF ?kX ?kN ?kT ?kK ?kd ?ku ?_; (case kB => k_asm); (case kF => k_asm); (case kX => k_asm); (case kN => k_asm); (case kT => k_asm); (case kK => exact rfl); (case c0 => assumption); (case c1 => assumption); (case kd => ktr_room); (case ku => ktr_units); k_whole); intro v9 n9 h9 tk9 e9 F9 N9; obtain ⟨x9, d9, T9, e9, e8, l1, l2⟩ := e9; subst e9; subst e8; (first | have ap9 := ap_new l1 l2 (by assumption) | have ap9 := ap_new (fun p hp => l1 p (List.mem_cons_of_mem _ hp)) l2 (by assumption)); (try k_lt l1); (try k_lt2 l2); (try k_sweep); (try dsimp only)))
local macro_rules | `(tactic| walk_at "call ref") => `(tactic| (k_here; (with_reducible show wpAny _ _ (call (Value.ref 341) [Value.int 1 _, Value.bytes _ _]) _ _ _); k_dflt (refine' Con.use (frb1 _ ?c0 ?c1) ?kB ?kF ?kX ?kN ?kT ?kK ?kd ?ku ?_; (case kB => k_asm); (case kF => k_asm); (case kX => k_asm); (case kN => k_asm); (case kT => k_asm); (case kK => exact rfl); (case c0 => assumption); (case c1 => assumption); (case kd => ktr_room); (case ku => ktr_units); k_whole); intro v9 n9 h9 tk9 e9 F9 N9; obtain ⟨x9, d9, T9, e9, e8, l1, l2⟩ := e9; subst e9; subst e8; (first | have ap9 := ap_new l1 l2 (by assumption) | have ap9 := ap_new (fun p hp => l1 p (List.mem_cons_of_mem _ hp)) l2 (by assumption)); (try k_lt l1); (try k_lt2 l2); (try k_sweep); (try dsimp only)))
local macro_rules | `(tactic| walk_at "call ref") => `(tactic| (k_here; (with_reducible show wpAny _ _ (call (Value.ref 346) [Value.int 1 _, Value.int _ _]) _ _ _); k_dflt (refine' Con.use (bu1 _ ?c0 ?c1) ?kB ?kF ?kX ?kN ?kT ?kK ?kd ?ku ?_; (case kB => k_asm); (case kF => k_asm); (case kX => k_asm); (case kN => k_asm); (case kT => k_asm); (case kK => exact rfl); (case c0 => assumption); (case c1 => assumption); (case kd => ktr_room); (case ku => ktr_units); k_whole); intro v9 n9 h9 tk9 e9 F9 N9; obtain ⟨x9, d9, T9, e9, e8, l1, l2⟩ := e9; subst e9; subst e8; (first | have ap9 := ap_new l1 l2 (by assumption) | have ap9 := ap_new (fun p hp => l1 p (List.mem_cons_of_mem _ hp)) l2 (by assumption)); (try k_lt l1); (try k_lt2 l2); (try k_sweep); (try dsimp only)))
theorem d0k1 (w : World) {v v0 : Int} {t tk td : Tok} {m : Str → Option Value} {r o d tl cl : Addr} {c : Nat} {T : Nat → Tok} {tk0 u0 : Tok} {rest : Led} (h0 : 0 ≤ v) (h1 : v < 256) (hv0 : Ok 1 v0)
    (hT : m (Str.ofString "things") = some (.ref tl)) (hC : m (Str.ofString "codes") = some (.ref cl)) (hD : m (Str.ofString "deed") = some (.int 0 td)) (hR : m (Str.ofString "raw") = some (.int v t))
    (hW : m (Str.ofString "row") = some (.ref r)) (hK : m (Str.ofString "kind") = some (.int 1 tk)) (hS : m (Str.ofString "s") = some (.ref o)) (ap : Apart3 r o d rest) :
    SCon w ifX.1 m (chunk w 1 r o d tk0 c T v0 u0 ++ rest) (DeedR w 1 tl cl r tk0 c rest) := by
  unfold SCon
  intro p loose mean mg mb dp un gd a ccd A₀ h₀ L s Q E B F X N TT hd hu hret
  obtain ⟨hro, hrd, hod, hr, ho, hd'⟩ := id ap
  replace N : News h₀ L s.heap ((r, listOf #[.int 1 tk0, .ref o, .int v0 u0] c) :: (o, instObj 187 d) :: (d, D1 w T v0) :: rest) := N
  rw [ov hT, ov hC, ov hD, ov hR, ov hW, ov hK, ov hS] at F
  dsimp only [ifX, scX, lawX]
  k_steps
  (with_reducible rename News _ _ _ _ => N9)
  exact hret _ _ _ _ _ ⟨rfl, rfl, rfl, _, _, _, _, _, rfl, (by first | assumption | exact okk1 h0 h1), ap⟩ (by assumption) N9
theorem d1k1 (w : World) {v v0 : Int} {t tk td : Tok} {m : Str → Option Value} {r o d tl cl : Addr} {c : Nat} {T : Nat → Tok} {tk0 u0 : Tok} {rest : Led} (h0 : 0 ≤ v) (h1 : v < 256) (hv0 : Ok 1 v0)
    (hT : m (Str.ofString "things") = some (.ref tl)) (hC : m (Str.ofString "codes") = some (.ref cl)) (hD : m (Str.ofString "deed") = some (.int 1 td)) (hR : m (Str.ofString "raw") = some (.int v t))
    (hW : m (Str.ofString "row") = some (.ref r)) (hK : m (Str.ofString "kind") = some (.int 1 tk)) (hS : m (Str.ofString "s") = some (.ref o)) (ap : Apart3 r o d rest) :
    SCon w ifX.1 m (chunk w 1 r o d tk0 c T v0 u0 ++ rest) (DeedR w 1 tl cl r tk0 c rest) := by
  unfold SCon
  intro p loose mean mg mb dp un gd a ccd A₀ h₀ L s Q E B F X N TT hd hu hret
  obtain ⟨hro, hrd, hod, hr, ho, hd'⟩ := id ap
  replace N : News h₀ L s.heap ((r, listOf #[.int 1 tk0, .ref o, .int v0 u0] c) :: (o, instObj 187 d) :: (d, D1 w T v0) :: rest) := N
  rw [ov hT, ov hC, ov hD, ov hR, ov hW, ov hK, ov hS] at F
  dsimp only [ifX, scX, lawX]
  k_steps
  (with_reducible rename News _ _ _ _ => N9)
  exact hret _ _ _ _ _ ⟨rfl, rfl, rfl, _, _, _, _, _, rfl, (by first | assumption | exact okk1 h0 h1), ap⟩ (by assumption) (fun p hp => N9 p (.tail _ hp))
theorem d3k1 (w : World) {v v0 : Int} {t tk td : Tok} {m : Str → Option Value} {r o d tl cl : Addr} {c : Nat} {T : Nat → Tok} {tk0 u0 : Tok} {rest : Led} (h0 : 0 ≤ v) (h1 : v < 256) (hv0 : Ok 1 v0)
    (hT : m (Str.ofString "things") = some (.ref tl)) (hC : m (Str.ofString "codes") = some (.ref cl)) (hD : m (Str.ofString "deed") = some (.int 3 td)) (hR : m (Str.ofString "raw") = some (.int v t))
    (hW : m (Str.ofString "row") = some (.ref r)) (hK : m (Str.ofString "kind") = some (.int 1 tk)) (hS : m (Str.ofString "s") = some (.ref o)) (ap : Apart3 r o d rest) :
    SCon w ifX.1 m (chunk w 1 r o d tk0 c T v0 u0 ++ rest) (DeedR w 1 tl cl r tk0 c rest) := by
  unfold SCon
  intro p loose mean mg mb dp un gd a ccd A₀ h₀ L s Q E B F X N TT hd hu hret
  obtain ⟨hro, hrd, hod, hr, ho, hd'⟩ := ap
  replace N : News h₀ L s.heap ((r, listOf #[.int 1 tk0, .ref o, .int v0 u0] c) :: (o, instObj 187 d) :: (d, D1 w T v0) :: rest) := N
  rw [ov hT, ov hC, ov hD, ov hR, ov hW, ov hK, ov hS] at F
  dsimp only [ifX, scX, lawX]
  k_steps
  (with_reducible rename News _ _ _ _ => N9)
  (with_reducible rename Apart3 _ _ _ _ => ap9)
  (with_reducible rename Fr _ _ _ _ => F9)
  refine hret _ _ ?nn _ _ ?R F9 ?NN
  case NN => exact news_pick (r := r) (rest := rest) (b := instObj 187 _) (c := D1 w _ (v - v % 32)) N9 (by (repeat (first | exact List.mem_cons_self | refine List.mem_cons_of_mem _ ?_))) (by (repeat (first | exact List.mem_cons_self | refine List.mem_cons_of_mem _ ?_))) (by (repeat (first | exact List.mem_cons_self | refine List.mem_cons_of_mem _ ?_))) (by (intro p hp; (repeat (first | exact hp | refine List.mem_cons_of_mem _ ?_))))
  case R => exact ⟨rfl, rfl, rfl, _, _, _, _, _, rfl, okk1 h0 h1, ap9⟩
theorem d4k1 (w : World) {v v0 : Int} {t tk td : Tok} {m : Str → Option Value} {r o d tl cl : Addr} {c : Nat} {T : Nat → Tok} {tk0 u0 : Tok} {rest : Led} (h0 : 0 ≤ v) (h1 : v < 256) (hv0 : Ok 1 v0)
    (hT : m (Str.ofString "things") = some (.ref tl)) (hC : m (Str.ofString "codes") = some (.ref cl)) (hD : m (Str.ofString "deed") = some (.int 4 td)) (hR : m (Str.ofString "raw") = some (.int v t))
    (hW : m (Str.ofString "row") = some (.ref r)) (hK : m (Str.ofString "kind") = some (.int 1 tk)) (hS : m (Str.ofString "s") = some (.ref o)) (ap : Apart3 r o d rest) :
    SCon w ifX.1 m (chunk w 1 r o d tk0 c T v0 u0 ++ rest) (DeedR w 1 tl cl r tk0 c rest) := by
  unfold SCon
  intro p loose mean mg mb dp un gd a ccd A₀ h₀ L s Q E B F X N TT hd hu hret
  obtain ⟨hro, hrd, hod, hr, ho, hd'⟩ := ap
  replace N : News h₀ L s.heap ((r, listOf #[.int 1 tk0, .ref o, .int v0 u0] c) :: (o, instObj 187 d) :: (d, D1 w T v0) :: rest) := N
  rw [ov hT, ov hC, ov hD, ov hR, ov hW, ov hK, ov hS] at F
  dsimp only [ifX, scX, lawX]
  k_steps
  (with_reducible rename News _ _ _ _ => N9)
  (with_reducible rename Apart3 _ _ _ _ => ap9)
  (with_reducible rename Fr _ _ _ _ => F9)
  refine hret _ _ ?nn _ _ ?R F9 ?NN
  case NN => exact news_pick (r := r) (rest := rest) (b := instObj 187 _) (c := D1 w _ (v - v % 32)) N9 (by (repeat (first | exact List.mem_cons_self | refine List.mem_cons_of_mem _ ?_))) (by (repeat (first | exact List.mem_cons_self | refine List.mem_cons_of_mem _ ?_))) (by (repeat (first | exact List.mem_cons_self | refine List.mem_cons_of_mem _ ?_))) (by (intro p hp; (repeat (first | exact hp | refine List.mem_cons_of_mem _ ?_))))
  case R => exact ⟨rfl, rfl, rfl, _, _, _, _, _, rfl, okk1 h0 h1, ap9⟩
theorem d5k1 (w : World) {v v0 : Int} {t tk td : Tok} {m : Str → Option Value} {r o d tl cl : Addr} {c : Nat} {T : Nat → Tok} {tk0 u0 : Tok} {rest : Led} (h0 : 0 ≤ v) (h1 : v < 256) (hv0 : Ok 1 v0)
    (hT : m (Str.ofString "things") = some (.ref tl)) (hC : m (Str.ofString "codes") = some (.ref cl)) (hD : m (Str.ofString "deed") = some (.int 5 td)) (hR : m (Str.ofString "raw") = some (.int v t))
    (hW : m (Str.ofString "row") = some (.ref r)) (hK : m (Str.ofString "kind") = some (.int 1 tk)) (hS : m (Str.ofString "s") = some (.ref o)) (ap : Apart3 r o d rest) :
    SCon w ifX.1 m (chunk w 1 r o d tk0 c T v0 u0 ++ rest) (DeedR w 1 tl cl r tk0 c rest) := by
  unfold SCon
  intro p loose mean mg mb dp un gd a ccd A₀ h₀ L s Q E B F X N TT hd hu hret
  obtain ⟨hro, hrd, hod, hr, ho, hd'⟩ := ap
  replace N : News h₀ L s.heap ((r, listOf #[.int 1 tk0, .ref o, .int v0 u0] c) :: (o, instObj 187 d) :: (d, D1 w T v0) :: rest) := N
  rw [ov hT, ov hC, ov hD, ov hR, ov hW, ov hK, ov hS] at F
  dsimp only [ifX, scX, lawX]
  k_steps
  (with_reducible rename News _ _ _ _ => N9)
  (with_reducible rename Apart3 _ _ _ _ => ap9)
  (with_reducible rename Fr _ _ _ _ => F9)
  refine hret _ _ ?nn _ _ ?R F9 ?NN
  case NN => exact news_pick (r := r) (rest := rest) (b := instObj 187 _) (c := D1 w _ (v - v % 32)) N9 (by (repeat (first | exact List.mem_cons_self | refine List.mem_cons_of_mem _ ?_))) (by (repeat (first | exact List.mem_cons_self | refine List.mem_cons_of_mem _ ?_))) (by (repeat (first | exact List.mem_cons_self | refine List.mem_cons_of_mem _ ?_))) (by (intro p hp; (repeat (first | exact hp | refine List.mem_cons_of_mem _ ?_))))
  case R => exact ⟨rfl, rfl, rfl, _, _, _, _, _, rfl, okk1 h0 h1, ap9⟩
theorem d6k1 (w : World) {v v0 : Int} {t tk td : Tok} {m : Str → Option Value} {r o d tl cl : Addr} {c : Nat} {T : Nat → Tok} {tk0 u0 : Tok} {rest : Led} (h0 : 0 ≤ v) (h1 : v < 256) (hv0 : Ok 1 v0)
    (hT : m (Str.ofString "things") = some (.ref tl)) (hC : m (Str.ofString "codes") = some (.ref cl)) (hD : m (Str.ofString "deed") = some (.int 6 td)) (hR : m (Str.ofString "raw") = some (.int v t))
    (hW : m (Str.ofString "row") = some (.ref r)) (hK : m (Str.ofString "kind") = some (.int 1 tk)) (hS : m (Str.ofString "s") = some (.ref o)) (ap : Apart3 r o d rest) :
    SCon w ifX.1 m (chunk w 1 r o d tk0 c T v0 u0 ++ rest) (DeedR w 1 tl cl r tk0 c rest) := by
  unfold SCon
  intro p loose mean mg mb dp un gd a ccd A₀ h₀ L s Q E B F X N TT hd hu hret
  obtain ⟨hro, hrd, hod, hr, ho, hd'⟩ := id ap
  replace N : News h₀ L s.heap ((r, listOf #[.int 1 tk0, .ref o, .int v0 u0] c) :: (o, instObj 187 d) :: (d, D1 w T v0) :: rest) := N
  rw [ov hT, ov hC, ov hD, ov hR, ov hW, ov hK, ov hS] at F
  dsimp only [ifX, scX, lawX]
  k_steps
  (with_reducible rename News _ _ _ _ => N9)
  (with_reducible rename Fr _ _ _ _ => F9)
  refine hret _ _ ?nn _ _ ?R F9 ?NN
  case NN => exact news_at3 (news_tl N9) (stD1_of w (v := v) hv0)
  case R => exact ⟨rfl, rfl, rfl, _, _, _, stv 6 v0 v, _, rfl, (st_bits1 hv0).2, ap⟩
local macro_rules | `(tactic| walk_at "subscriptTail Name BinOp ref int") => `(tactic| ((with_reducible rename @Eq Int (Int.fmod _ 5) _ => h59); (simp only [h59])))
local macro_rules | `(tactic| walk_at "call ref") => `(tactic| (k_here; (with_reducible show wpAny _ _ (call (Value.ref 360) [Value.ref _, Value.str _ _]) _ _ _); k_dflt (refine' ConL.use (bas1 _ ?c0 ?c1) ?kB ?kF ?kX ?kN ?kT ?kK ?kd ?ku ?_; (case kB => k_asm); (case kF => k_asm); (case kX => k_asm); (case kN => k_asm); (case kT => k_asm); (case kK => exact rfl); (case c0 => k_mem); (case c1 => k_mem); (case kd => ktr_room); (case ku => ktr_units); k_whole); intro v9 n9 h9 tk9 e9 F9 N9; obtain ⟨e9, e8⟩ := e9; subst e9; subst e8; (try k_sweep); (try dsimp only)))
theorem d2k1_0 (w : World) {v v0 : Int} {t tk td : Tok} {m : Str → Option Value} {r o d tl cl : Addr} {c : Nat} {T : Nat → Tok} {tk0 u0 : Tok} {rest : Led} (h5 : v.fmod 5 = 0) (hv0 : Ok 1 v0)
    (hT : m (Str.ofString "things") = some (.ref tl)) (hC : m (Str.ofString "codes") = some (.ref cl)) (hD : m (Str.ofString "deed") = some (.int 2 td)) (hR : m (Str.ofString "raw") = some (.int v t))
    (hS : m (Str.ofString "s") = some (.ref o)) (ap : Apart3 r o d rest) :
    SCon w ifX.1 m (chunk w 1 r o d tk0 c T v0 u0 ++ rest) (DeedR w 1 tl cl r tk0 c rest) := by
  unfold SCon
  intro p loose mean mg mb dp un gd a ccd A₀ h₀ L s Q E B F X N TT hd hu hret
  replace N : News h₀ L s.heap ((r, listOf #[.int 1 tk0, .ref o, .int v0 u0] c) :: (o, instObj 187 d) :: (d, D1 w T v0) :: rest) := N
  rw [ov hT, ov hC, ov hD, ov hR, ov hS] at F
  dsimp only [ifX, scX, lawX]
  k_steps
  (with_reducible rename News _ _ _ _ => N9)
  (with_reducible rename Fr _ _ _ _ => F9)
  exact hret _ _ _ _ _ ⟨rfl, rfl, rfl, _, _, T, v0, u0, rfl, hv0, ap⟩ F9 N9
local macro_rules | `(tactic| walk_at "call ref") => `(tactic| (k_here; (with_reducible show wpAny _ _ (call (Value.ref 360) [Value.ref _, Value.none]) _ _ _); k_dflt (refine' ConL.use (ban1 _ ?c0 ?c1) ?kB ?kF ?kX ?kN ?kT ?kK ?kd ?ku ?_; (case kB => k_asm); (case kF => k_asm); (case kX => k_asm); (case kN => k_asm); (case kT => k_asm); (case kK => exact rfl); (case c0 => k_mem); (case c1 => k_mem); (case kd => ktr_room); (case ku => ktr_units); k_whole); intro v9 n9 h9 tk9 e9 F9 N9; obtain ⟨e9, e8⟩ := e9; subst e9; subst e8; (try k_sweep); (try dsimp only)))
theorem d2k1_1 (w : World) {v v0 : Int} {t tk td : Tok} {m : Str → Option Value} {r o d tl cl : Addr} {c : Nat} {T : Nat → Tok} {tk0 u0 : Tok} {rest : Led} (h5 : v.fmod 5 = 1) (hv0 : Ok 1 v0)
    (hT : m (Str.ofString "things") = some (.ref tl)) (hC : m (Str.ofString "codes") = some (.ref cl)) (hD : m (Str.ofString "deed") = some (.int 2 td)) (hR : m (Str.ofString "raw") = some (.int v t))
    (hS : m (Str.ofString "s") = some (.ref o)) (ap : Apart3 r o d rest) :
    SCon w ifX.1 m (chunk w 1 r o d tk0 c T v0 u0 ++ rest) (DeedR w 1 tl cl r tk0 c rest) := by
  unfold SCon
  intro p loose mean mg mb dp un gd a ccd A₀ h₀ L s Q E B F X N TT hd hu hret
  replace N : News h₀ L s.heap ((r, listOf #[.int 1 tk0, .ref o, .int v0 u0] c) :: (o, instObj 187 d) :: (d, D1 w T v0) :: rest) := N
  rw [ov hT, ov hC, ov hD, ov hR, ov hS] at F
  dsimp only [ifX, scX, lawX]
  k_steps
  (with_reducible rename News _ _ _ _ => N9)
  (with_reducible rename Fr _ _ _ _ => F9)
  exact hret _ _ _ _ _ ⟨rfl, rfl, rfl, _, _, T, v0, u0, rfl, hv0, ap⟩ F9 N9
local macro_rules | `(tactic| walk_at "call ref") => `(tactic| (k_here; (with_reducible show wpAny _ _ (call (Value.ref 360) [Value.ref _, Value.ref 306]) _ _ _); k_dflt (refine' ConL.use (bal1 _ ?c0 ?c1) ?kB ?kF ?kX ?kN ?kT ?kK ?kd ?ku ?_; (case kB => k_asm); (case kF => k_asm); (case kX => k_asm); (case kN => k_asm); (case kT => k_asm); (case kK => exact rfl); (case c0 => k_mem); (case c1 => k_mem); (case kd => ktr_room); (case ku => ktr_units); k_whole); intro v9 n9 h9 tk9 e9 F9 N9; obtain ⟨e9, e8⟩ := e9; subst e9; subst e8; (try k_sweep); (try dsimp only)))
theorem d2k1_2 (w : World) {v v0 : Int} {t tk td : Tok} {m : Str → Option Value} {r o d tl cl : Addr} {c : Nat} {T : Nat → Tok} {tk0 u0 : Tok} {rest : Led} (h5 : v.fmod 5 = 2) (hv0 : Ok 1 v0)
    (hT : m (Str.ofString "things") = some (.ref tl)) (hC : m (Str.ofString "codes") = some (.ref cl)) (hD : m (Str.ofString "deed") = some (.int 2 td)) (hR : m (Str.ofString "raw") = some (.int v t))
    (hS : m (Str.ofString "s") = some (.ref o)) (ap : Apart3 r o d rest) :
    SCon w ifX.1 m (chunk w 1 r o d tk0 c T v0 u0 ++ rest) (DeedR w 1 tl cl r tk0 c rest) := by
  unfold SCon
  intro p loose mean mg mb dp un gd a ccd A₀ h₀ L s Q E B F X N TT hd hu hret
  replace N : News h₀ L s.heap ((r, listOf #[.int 1 tk0, .ref o, .int v0 u0] c) :: (o, instObj 187 d) :: (d, D1 w T v0) :: rest) := N
  rw [ov hT, ov hC, ov hD, ov hR, ov hS] at F
  dsimp only [ifX, scX, lawX]
  k_steps
  (with_reducible rename News _ _ _ _ => N9)
  (with_reducible rename Fr _ _ _ _ => F9)
  exact hret _ _ _ _ _ ⟨rfl, rfl, rfl, _, _, T, v0, u0, rfl, hv0, ap⟩ F9 N9
local macro_rules | `(tactic| walk_at "call ref") => `(tactic| (k_here; (with_reducible show wpAny _ _ (call (Value.ref 360) [Value.ref _, Value.bytes #[] _]) _ _ _); k_dflt (refine' ConL.use (bae1 _ ?c0 ?c1) ?kB ?kF ?kX ?kN ?kT ?kK ?kd ?ku ?_; (case kB => k_asm); (case kF => k_asm); (case kX => k_asm); (case kN => k_asm); (case kT => k_asm); (case kK => exact rfl); (case c0 => k_mem); (case c1 => k_mem); (case kd => ktr_room); (case ku => ktr_units); k_whole); intro v9 n9 h9 tk9 e9 F9 N9; obtain ⟨e9, e8⟩ := e9; subst e9; subst e8; (try k_sweep); (try dsimp only)))
theorem d2k1_3 (w : World) {v v0 : Int} {t tk td : Tok} {m : Str → Option Value} {r o d tl cl : Addr} {c : Nat} {T : Nat → Tok} {tk0 u0 : Tok} {rest : Led} (h5 : v.fmod 5 = 3) (hv0 : Ok 1 v0)
    (hT : m (Str.ofString "things") = some (.ref tl)) (hC : m (Str.ofString "codes") = some (.ref cl)) (hD : m (Str.ofString "deed") = some (.int 2 td)) (hR : m (Str.ofString "raw") = some (.int v t))
    (hS : m (Str.ofString "s") = some (.ref o)) (ap : Apart3 r o d rest) :
    SCon w ifX.1 m (chunk w 1 r o d tk0 c T v0 u0 ++ rest) (DeedR w 1 tl cl r tk0 c rest) := by
  unfold SCon
  intro p loose mean mg mb dp un gd a ccd A₀ h₀ L s Q E B F X N TT hd hu hret
  replace N : News h₀ L s.heap ((r, listOf #[.int 1 tk0, .ref o, .int v0 u0] c) :: (o, instObj 187 d) :: (d, D1 w T v0) :: rest) := N
  rw [ov hT, ov hC, ov hD, ov hR, ov hS] at F
  dsimp only [ifX, scX, lawX]
  k_steps
  (with_reducible rename News _ _ _ _ => N9)
  (with_reducible rename Fr _ _ _ _ => F9)
  exact hret _ _ _ _ _ ⟨rfl, rfl, rfl, _, _, T, v0, u0, rfl, hv0, ap⟩ F9 N9
local macro_rules | `(tactic| walk_at "call ref") => `(tactic| (k_here; (with_reducible show wpAny _ _ (call (Value.ref 360) [Value.ref _, Value.bytes _ _]) _ _ _); k_dflt (refine' ConL.use (bat1 _ ?c0 ?c1) ?kB ?kF ?kX ?kN ?kT ?kK ?kd ?ku ?_; (case kB => k_asm); (case kF => k_asm); (case kX => k_asm); (case kN => k_asm); (case kT => k_asm); (case kK => exact rfl); (case c0 => k_mem); (case c1 => k_mem); (case kd => ktr_room); (case ku => ktr_units); k_whole); intro v9 n9 h9 tk9 e9 F9 N9; obtain ⟨e9, e8⟩ := e9; subst e9; subst e8; (try k_sweep); (try dsimp only)))
theorem d2k1_4 (w : World) {v v0 : Int} {t tk td : Tok} {m : Str → Option Value} {r o d tl cl : Addr} {c : Nat} {T : Nat → Tok} {tk0 u0 : Tok} {rest : Led} (h5 : v.fmod 5 = 4) (hv0 : Ok 1 v0)
    (hT : m (Str.ofString "things") = some (.ref tl)) (hC : m (Str.ofString "codes") = some (.ref cl)) (hD : m (Str.ofString "deed") = some (.int 2 td)) (hR : m (Str.ofString "raw") = some (.int v t))
    (hS : m (Str.ofString "s") = some (.ref o)) (ap : Apart3 r o d rest) :
    SCon w ifX.1 m (chunk w 1 r o d tk0 c T v0 u0 ++ rest) (DeedR w 1 tl cl r tk0 c rest) := by
  unfold SCon
  intro p loose mean mg mb dp un gd a ccd A₀ h₀ L s Q E B F X N TT hd hu hret
  replace N : News h₀ L s.heap ((r, listOf #[.int 1 tk0, .ref o, .int v0 u0] c) :: (o, instObj 187 d) :: (d, D1 w T v0) :: rest) := N
  rw [ov hT, ov hC, ov hD, ov hR, ov hS] at F
  dsimp only [ifX, scX, lawX]
  k_steps
  (with_reducible rename News _ _ _ _ => N9)
  (with_reducible rename Fr _ _ _ _ => F9)
  exact hret _ _ _ _ _ ⟨rfl, rfl, rfl, _, _, T, v0, u0, rfl, hv0, ap⟩ F9 N9
end Mine
-- part DA2
namespace Mine
local macro_rules | `(tactic| k_room) => `(tactic| ktr_room)
local macro_rules | `(tactic| k_all) => `(tactic| assumption)
local macro_rules | `(tactic| k_ne) => `(tactic| first | assumption | exact Ne.symm (by assumption))
local macro_rules | `(tactic| walk_at "setItem ref int") => `(tactic| (k_here; k_dflt (refine' ki_set (its := #[_, _, _]) ?F ?N ?a ?b ?e ?U ?_; (case F => k_asm); (case N => k_asm); (case U => k_upd); (case a => decide); (case b => decide); (case e => rfl)); ki_rest))
local macro_rules | `(tactic| walk_at "call ref") => `(tactic| (k_here; (with_reducible show wpAny _ _ (call (Value.ref 320) [Value.int _ _, Value.int 2 _]) _ _ _); k_dflt (refine' Con.use (keep2 _ ?c0 ?c1) ?kB ?kF ?kX ?kN ?kT ?kK ?kd ?ku ?_; (case kB => k_asm); (case kF => k_asm); (case kX => k_asm); (case kN => k_asm); (case kT => k_asm); (case kK => exact rfl); (case c0 => assumption); (case c1 => assumption); (case kd => ktr_room); (case ku => ktr_units); k_whole); intro v9 n9 h9 tk9 e9 F9 N9; obtain ⟨⟨t9, e9⟩, e8⟩ := e9; subst e9; subst e8; (try k_sweep); (try dsimp only)))
local macro_rules | `(tactic| walk_at "call ref") => `(tactic| (k_here; (with_reducible show wpAny _ _ (call (Value.ref 255) [Value.ref _, Value.int _ _]) _ _ _); k_dflt (refine' Con.use (sbi2 _ ?c0 ?c1 ?c2 ?c3) ?kB ?kF ?kX ?kN ?kT ?kK ?kd ?ku ?_; (case kB => k_asm); (case kF => k_asm); (case kX => k_asm); (case kN => k_asm); (case kT => k_asm); (case kK => exact rfl); (case c0 => assumption); (case c1 => assumption); (case c2 => k_mem); (case c3 => k_upd); (case kd => ktr_room); (case ku => ktr_units); k_whole); intro v9 n9 h9 tk9 e9 F9 N9; obtain ⟨e9, e8⟩ := e9; subst e9; subst e8; (try k_sweep); (try dsimp only)))
local macro_rules | `(tactic| walk_at "call ref") => `(tactic| (k_here; (with_reducible show wpAny _ _ (call (Value.ref 255) [Value.ref _, Value.bytes _ _]) _ _ _); k_dflt (refine' Con.use (sbb2 _ ?c0 ?c1 ?c2 ?c3) ?kB ?kF ?kX ?kN ?kT ?kK ?kd ?ku ?_; (case kB => k_asm); (case kF => k_asm); (case kX => k_asm); (case kN => k_asm); (case kT => k_asm); (case kK => exact rfl); (case c0 => assumption); (case c1 => assumption); (case c2 => k_mem); (case c3 => k_upd); (case kd => ktr_room); (case ku => ktr_units); k_whole); intro v9 n9 h9 tk9 e9 F9 N9; obtain ⟨e9, e8⟩ := e9; subst e9; subst e8; (try k_sweep); (try dsimp only)))
local macro_rules | `(tactic| walk_at "call ref") => `(tactic| (k_here; (with_reducible show wpAny _ _ (call (Value.ref 341) [Value.int 2 _, Value.int _ _]) _ _ _); k_dflt (refine' Con.use (fri2 _ ?c0 ?c1) ?kB ?kF ?kX ?kN ?kT ?kK ?kd ?ku ?_; (case kB => k_asm); (case kF => k_asm); (case kX => k_asm); (case kN => k_asm); (case kT => k_asm); (case kK => exact rfl); (case c0 => assumption); (case c1 => assumption); (case kd => ktr_room); (case ku => ktr_units); k_whole); intro v9 n9 h9 tk9 e9 F9 N9; obtain ⟨x9, d9, T9, e9, e8, l1, l2⟩ := e9; subst e9; subst e8; (first | have ap9 := ap_new l1 l2 (by assumption) | have ap9 := ap_new (fun p hp => l1 p (List.mem_cons_of_mem _ hp)) l2 (by assumption)); (try k_lt l1); (try k_lt2 l2); (try k_sweep); (try dsimp only)))
local macro_rules | `(tactic| walk_at "call ref") => `(tactic| (k_here; (with_reducible show wpAny _ _ (call (Value.ref 341) [Value.int 2 _, Value.bytes _ _]) _ _ _); k_dflt (refine' Con.use (frb2 _ ?c0 ?c1) ?kB ?kF ?kX ?kN ?kT ?kK ?kd ?ku ?_; (case kB => k_asm); (case kF => k_asm); (case kX => k_asm); (case kN => k_asm); (case kT => k_asm); (case kK => exact rfl); (case c0 => assumption); (case c1 => assumption); (case kd => ktr_room); (case ku => ktr_units); k_whole); intro v9 n9 h9 tk9 e9 F9 N9; obtain ⟨x9, d9, T9, e9, e8, l1, l2⟩ := e9; subst e9; subst e8; (first | have ap9 := ap_new l1 l2 (by assumption) | have ap9 := ap_new (fun p hp => l1 p (List.mem_cons_of_mem _ hp)) l2 (by assumption)); (try k_lt l1); (try k_lt2 l2); (try k_sweep); (try dsimp only)))
local macro_rules | `(tactic| walk_at "call ref") => `(tactic| (k_here; (with_reducible show wpAny _ _ (call (Value.ref 346) [Value.int 2 _, Value.int _ _]) _ _ _); k_dflt (refine' Con.use (bu2 _ ?c0 ?c1) ?kB ?kF ?kX ?kN ?kT ?kK ?kd ?ku ?_; (case kB => k_asm); (case kF => k_asm); (case kX => k_asm); (case kN => k_asm); (case kT => k_asm); (case kK => exact rfl); (case c0 => assumption); (case c1 => assumption); (case kd => ktr_room); (case ku => ktr_units); k_whole); intro v9 n9 h9 tk9 e9 F9 N9; obtain ⟨x9, d9, T9, e9, e8, l1, l2⟩ := e9; subst e9; subst e8; (first | have ap9 := ap_new l1 l2 (by assumption) | have ap9 := ap_new (fun p hp => l1 p (List.mem_cons_of_mem _ hp)) l2 (by assumption)); (try k_lt l1); (try k_lt2 l2); (try k_sweep); (try dsimp only)))
theorem d0k2 (w : World) {v v0 : Int} {t tk td : Tok} {m : Str → Option Value} {r o d tl cl : Addr} {c : Nat} {T : Nat → Tok} {tk0 u0 : Tok} {rest : Led} (h0 : 0 ≤ v) (h1 : v < 256) (hv0 : Ok 2 v0)
    (hT : m (Str.ofString "things") = some (.ref tl)) (hC : m (Str.ofString "codes") = some (.ref cl)) (hD : m (Str.ofString "deed") = some (.int 0 td)) (hR : m (Str.ofString "raw") = some (.int v t))
    (hW : m (Str.ofString "row") = some (.ref r)) (hK : m (Str.ofString "kind") = some (.int 2 tk)) (hS : m (Str.ofString "s") = some (.ref o)) (ap : Apart3 r o d rest) :
    SCon w ifX.1 m (chunk w 2 r o d tk0 c T v0 u0 ++ rest) (DeedR w 2 tl cl r tk0 c rest) := by
  unfold SCon
  intro p loose mean mg mb dp un gd a ccd A₀ h₀ L s Q E B F X N TT hd hu hret
  obtain ⟨hro, hrd, hod, hr, ho, hd'⟩ := id ap
  replace N : News h₀ L s.heap ((r, listOf #[.int 2 tk0, .ref o, .int v0 u0] c) :: (o, instObj 276 d) :: (d, D2 w T v0) :: rest) := N
  rw [ov hT, ov hC, ov hD, ov hR, ov hW, ov hK, ov hS] at F
  dsimp only [ifX, scX, lawX]
  k_steps
  (with_reducible rename News _ _ _ _ => N9)
  exact hret _ _ _ _ _ ⟨rfl, rfl, rfl, _, _, _, _, _, rfl, (by first | assumption | exact okk2 h0 h1), ap⟩ (by assumption) N9
theorem d1k2 (w : World) {v v0 : Int} {t tk td : Tok} {m : Str → Option Value} {r o d tl cl : Addr} {c : Nat} {T : Nat → Tok} {tk0 u0 : Tok} {rest : Led} (h0 : 0 ≤ v) (h1 : v < 256) (hv0 : Ok 2 v0)
    (hT : m (Str.ofString "things") = some (.ref tl)) (hC : m (Str.ofString "codes") = some (.ref cl)) (hD : m (Str.ofString "deed") = some (.int 1 td)) (hR : m (Str.ofString "raw") = some (.int v t))
    (hW : m (Str.ofString "row") = some (.ref r)) (hK : m (Str.ofString "kind") = some (.int 2 tk)) (hS : m (Str.ofString "s") = some (.ref o)) (ap : Apart3 r o d rest) :
    SCon w ifX.1 m (chunk w 2 r o d tk0 c T v0 u0 ++ rest) (DeedR w 2 tl cl r tk0 c rest) := by
  unfold SCon
  intro p loose mean mg mb dp un gd a ccd A₀ h₀ L s Q E B F X N TT hd hu hret
  obtain ⟨hro, hrd, hod, hr, ho, hd'⟩ := id ap
  replace N : News h₀ L s.heap ((r, listOf #[.int 2 tk0, .ref o, .int v0 u0] c) :: (o, instObj 276 d) :: (d, D2 w T v0) :: rest) := N
  rw [ov hT, ov hC, ov hD, ov hR, ov hW, ov hK, ov hS] at F
  dsimp only [ifX, scX, lawX]
  k_steps
  (with_reducible rename News _ _ _ _ => N9)
  exact hret _ _ _ _ _ ⟨rfl, rfl, rfl, _, _, _, _, _, rfl, (by first | assumption | exact okk2 h0 h1), ap⟩ (by assumption) (fun p hp => N9 p (.tail _ hp))
theorem d3k2 (w : World) {v v0 : Int} {t tk td : Tok} {m : Str → Option Value} {r o d tl cl : Addr} {c : Nat} {T : Nat → Tok} {tk0 u0 : Tok} {rest : Led} (h0 : 0 ≤ v) (h1 : v < 256) (hv0 : Ok 2 v0)
    (hT : m (Str.ofString "things") = some (.ref tl)) (hC : m (Str.ofString "codes") = some (.ref cl)) (hD : m (Str.ofString "deed") = some (.int 3 td)) (hR : m (Str.ofString "raw") = some (.int v t))
    (hW : m (Str.ofString "row") = some (.ref r)) (hK : m (Str.ofString "kind") = some (.int 2 tk)) (hS : m (Str.ofString "s") = some (.ref o)) (ap : Apart3 r o d rest) :
    SCon w ifX.1 m (chunk w 2 r o d tk0 c T v0 u0 ++ rest) (DeedR w 2 tl cl r tk0 c rest) := by
  unfold SCon
  intro p loose mean mg mb dp un gd a ccd A₀ h₀ L s Q E B F X N TT hd hu hret
  obtain ⟨hro, hrd, hod, hr, ho, hd'⟩ := ap
  replace N : News h₀ L s.heap ((r, listOf #[.int 2 tk0, .ref o, .int v0 u0] c) :: (o, instObj 276 d) :: (d, D2 w T v0) :: rest) := N
  rw [ov hT, ov hC, ov hD, ov hR, ov hW, ov hK, ov hS] at F
  dsimp only [ifX, scX, lawX]
  k_steps
  (with_reducible rename News _ _ _ _ => N9)
  (with_reducible rename Apart3 _ _ _ _ => ap9)
  (with_reducible rename Fr _ _ _ _ => F9)
  refine hret _ _ ?nn _ _ ?R F9 ?NN
  case NN => exact news_pick (r := r) (rest := rest) (b := instObj 276 _) (c := D2 w _ (v % 32)) N9 (by (repeat (first | exact List.mem_cons_self | refine List.mem_cons_of_mem _ ?_))) (by (repeat (first | exact List.mem_cons_self | refine List.mem_cons_of_mem _ ?_))) (by (repeat (first | exact List.mem_cons_self | refine List.mem_cons_of_mem _ ?_))) (by (intro p hp; (repeat (first | exact hp | refine List.mem_cons_of_mem _ ?_))))
  case R => exact ⟨rfl, rfl, rfl, _, _, _, _, _, rfl, okk2 h0 h1, ap9⟩
theorem d4k2 (w : World) {v v0 : Int} {t tk td : Tok} {m : Str → Option Value} {r o d tl cl : Addr} {c : Nat} {T : Nat → Tok} {tk0 u0 : Tok} {rest : Led} (h0 : 0 ≤ v) (h1 : v < 256) (hv0 : Ok 2 v0)
    (hT : m (Str.ofString "things") = some (.ref tl)) (hC : m (Str.ofString "codes") = some (.ref cl)) (hD : m (Str.ofString "deed") = some (.int 4 td)) (hR : m (Str.ofString "raw") = some (.int v t))
    (hW : m (Str.ofString "row") = some (.ref r)) (hK : m (Str.ofString "kind") = some (.int 2 tk)) (hS : m (Str.ofString "s") = some (.ref o)) (ap : Apart3 r o d rest) :
    SCon w ifX.1 m (chunk w 2 r o d tk0 c T v0 u0 ++ rest) (DeedR w 2 tl cl r tk0 c rest) := by
  unfold SCon
  intro p loose mean mg mb dp un gd a ccd A₀ h₀ L s Q E B F X N TT hd hu hret
  obtain ⟨hro, hrd, hod, hr, ho, hd'⟩ := ap
  replace N : News h₀ L s.heap ((r, listOf #[.int 2 tk0, .ref o, .int v0 u0] c) :: (o, instObj 276 d) :: (d, D2 w T v0) :: rest) := N
  rw [ov hT, ov hC, ov hD, ov hR, ov hW, ov hK, ov hS] at F
  dsimp only [ifX, scX, lawX]
  k_steps
  (with_reducible rename News _ _ _ _ => N9)
  (with_reducible rename Apart3 _ _ _ _ => ap9)
  (with_reducible rename Fr _ _ _ _ => F9)
  refine hret _ _ ?nn _ _ ?R F9 ?NN
  case NN => exact news_pick (r := r) (rest := rest) (b := instObj 276 _) (c := D2 w _ (v % 32)) N9 (by (repeat (first | exact List.mem_cons_self | refine List.mem_cons_of_mem _ ?_))) (by (repeat (first | exact List.mem_cons_self | refine List.mem_cons_of_mem _ ?_))) (by (repeat (first | exact List.mem_cons_self | refine List.mem_cons_of_mem _ ?_))) (by (intro p hp; (repeat (first | exact hp | refine List.mem_cons_of_mem _ ?_))))
  case R => exact ⟨rfl, rfl, rfl, _, _, _, _, _, rfl, okk2 h0 h1, ap9⟩
theorem d5k2 (w : World) {v v0 : Int} {t tk td : Tok} {m : Str → Option Value} {r o d tl cl : Addr} {c : Nat} {T : Nat → Tok} {tk0 u0 : Tok} {rest : Led} (h0 : 0 ≤ v) (h1 : v < 256) (hv0 : Ok 2 v0)
    (hT : m (Str.ofString "things") = some (.ref tl)) (hC : m (Str.ofString "codes") = some (.ref cl)) (hD : m (Str.ofString "deed") = some (.int 5 td)) (hR : m (Str.ofString "raw") = some (.int v t))
    (hW : m (Str.ofString "row") = some (.ref r)) (hK : m (Str.ofString "kind") = some (.int 2 tk)) (hS : m (Str.ofString "s") = some (.ref o)) (ap : Apart3 r o d rest) :
    SCon w ifX.1 m (chunk w 2 r o d tk0 c T v0 u0 ++ rest) (DeedR w 2 tl cl r tk0 c rest) := by
  unfold SCon
  intro p loose mean mg mb dp un gd a ccd A₀ h₀ L s Q E B F X N TT hd hu hret
  obtain ⟨hro, hrd, hod, hr, ho, hd'⟩ := ap
  replace N : News h₀ L s.heap ((r, listOf #[.int 2 tk0, .ref o, .int v0 u0] c) :: (o, instObj 276 d) :: (d, D2 w T v0) :: rest) := N
  rw [ov hT, ov hC, ov hD, ov hR, ov hW, ov hK, ov hS] at F
  dsimp only [ifX, scX, lawX]
  k_steps
  (with_reducible rename News _ _ _ _ => N9)
  (with_reducible rename Apart3 _ _ _ _ => ap9)
  (with_reducible rename Fr _ _ _ _ => F9)
  refine hret _ _ ?nn _ _ ?R F9 ?NN
  case NN => exact news_pick (r := r) (rest := rest) (b := instObj 276 _) (c := D2 w _ (v % 32)) N9 (by (repeat (first | exact List.mem_cons_self | refine List.mem_cons_of_mem _ ?_))) (by (repeat (first | exact List.mem_cons_self | refine List.mem_cons_of_mem _ ?_))) (by (repeat (first | exact List.mem_cons_self | refine List.mem_cons_of_mem _ ?_))) (by (intro p hp; (repeat (first | exact hp | refine List.mem_cons_of_mem _ ?_))))
  case R => exact ⟨rfl, rfl, rfl, _, _, _, _, _, rfl, okk2 h0 h1, ap9⟩
theorem d6k2 (w : World) {v v0 : Int} {t tk td : Tok} {m : Str → Option Value} {r o d tl cl : Addr} {c : Nat} {T : Nat → Tok} {tk0 u0 : Tok} {rest : Led} (h0 : 0 ≤ v) (h1 : v < 256) (hv0 : Ok 2 v0)
    (hT : m (Str.ofString "things") = some (.ref tl)) (hC : m (Str.ofString "codes") = some (.ref cl)) (hD : m (Str.ofString "deed") = some (.int 6 td)) (hR : m (Str.ofString "raw") = some (.int v t))
    (hW : m (Str.ofString "row") = some (.ref r)) (hK : m (Str.ofString "kind") = some (.int 2 tk)) (hS : m (Str.ofString "s") = some (.ref o)) (ap : Apart3 r o d rest) :
    SCon w ifX.1 m (chunk w 2 r o d tk0 c T v0 u0 ++ rest) (DeedR w 2 tl cl r tk0 c rest) := by
  unfold SCon
  intro p loose mean mg mb dp un gd a ccd A₀ h₀ L s Q E B F X N TT hd hu hret
  obtain ⟨hro, hrd, hod, hr, ho, hd'⟩ := id ap
  replace N : News h₀ L s.heap ((r, listOf #[.int 2 tk0, .ref o, .int v0 u0] c) :: (o, instObj 276 d) :: (d, D2 w T v0) :: rest) := N
  rw [ov hT, ov hC, ov hD, ov hR, ov hW, ov hK, ov hS] at F
  dsimp only [ifX, scX, lawX]
  k_steps
  (with_reducible rename News _ _ _ _ => N9)
  (with_reducible rename Fr _ _ _ _ => F9)
  refine hret _ _ ?nn _ _ ?R F9 ?NN
  case NN => exact news_at3 (news_tl N9) (stD2_of w (v := v) hv0)
  case R => exact ⟨rfl, rfl, rfl, _, _, _, stv 2 v0 v, _, rfl, (st_bits2 hv0).2, ap⟩
local macro_rules | `(tactic| walk_at "subscriptTail Name BinOp ref int") => `(tactic| ((with_reducible rename @Eq Int (Int.fmod _ 5) _ => h59); (simp only [h59])))
local macro_rules | `(tactic| walk_at "call ref") => `(tactic| (k_here; (with_reducible show wpAny _ _ (call (Value.ref 360) [Value.ref _, Value.str _ _]) _ _ _); k_dflt (refine' ConL.use (bas2 _ ?c0 ?c1) ?kB ?kF ?kX ?kN ?kT ?kK ?kd ?ku ?_; (case kB => k_asm); (case kF => k_asm); (case kX => k_asm); (case kN => k_asm); (case kT => k_asm); (case kK => exact rfl); (case c0 => k_mem); (case c1 => k_mem); (case kd => ktr_room); (case ku => ktr_units); k_whole); intro v9 n9 h9 tk9 e9 F9 N9; obtain ⟨e9, e8⟩ := e9; subst e9; subst e8; (try k_sweep); (try dsimp only)))
theorem d2k2_0 (w : World) {v v0 : Int} {t tk td : Tok} {m : Str → Option Value} {r o d tl cl : Addr} {c : Nat} {T : Nat → Tok} {tk0 u0 : Tok} {rest : Led} (h5 : v.fmod 5 = 0) (hv0 : Ok 2 v0)
    (hT : m (Str.ofString "things") = some (.ref tl)) (hC : m (Str.ofString "codes") = some (.ref cl)) (hD : m (Str.ofString "deed") = some (.int 2 td)) (hR : m (Str.ofString "raw") = some (.int v t))
    (hS : m (Str.ofString "s") = some (.ref o)) (ap : Apart3 r o d rest) :
    SCon w ifX.1 m (chunk w 2 r o d tk0 c T v0 u0 ++ rest) (DeedR w 2 tl cl r tk0 c rest) := by
  unfold SCon
  intro p loose mean mg mb dp un gd a ccd A₀ h₀ L s Q E B F X N TT hd hu hret
  replace N : News h₀ L s.heap ((r, listOf #[.int 2 tk0, .ref o, .int v0 u0] c) :: (o, instObj 276 d) :: (d, D2 w T v0) :: rest) := N
  rw [ov hT, ov hC, ov hD, ov hR, ov hS] at F
  dsimp only [ifX, scX, lawX]
  k_steps
  (with_reducible rename News _ _ _ _ => N9)
  (with_reducible rename Fr _ _ _ _ => F9)
  exact hret _ _ _ _ _ ⟨rfl, rfl, rfl, _, _, T, v0, u0, rfl, hv0, ap⟩ F9 N9
local macro_rules | `(tactic| walk_at "call ref") => `(tactic| (k_here; (with_reducible show wpAny _ _ (call (Value.ref 360) [Value.ref _, Value.none]) _ _ _); k_dflt (refine' ConL.use (ban2 _ ?c0 ?c1) ?kB ?kF ?kX ?kN ?kT ?kK ?kd ?ku ?_; (case kB => k_asm); (case kF => k_asm); (case kX => k_asm); (case kN => k_asm); (case kT => k_asm); (case kK => exact rfl); (case c0 => k_mem); (case c1 => k_mem); (case kd => ktr_room); (case ku => ktr_units); k_whole); intro v9 n9 h9 tk9 e9 F9 N9; obtain ⟨e9, e8⟩ := e9; subst e9; subst e8; (try k_sweep); (try dsimp only)))
theorem d2k2_1 (w : World) {v v0 : Int} {t tk td : Tok} {m : Str → Option Value} {r o d tl cl : Addr} {c : Nat} {T : Nat → Tok} {tk0 u0 : Tok} {rest : Led} (h5 : v.fmod 5 = 1) (hv0 : Ok 2 v0)
    (hT : m (Str.ofString "things") = some (.ref tl)) (hC : m (Str.ofString "codes") = some (.ref cl)) (hD : m (Str.ofString "deed") = some (.int 2 td)) (hR : m (Str.ofString "raw") = some (.int v t))
    (hS : m (Str.ofString "s") = some (.ref o)) (ap : Apart3 r o d rest) :
    SCon w ifX.1 m (chunk w 2 r o d tk0 c T v0 u0 ++ rest) (DeedR w 2 tl cl r tk0 c rest) := by
  unfold SCon
  intro p loose mean mg mb dp un gd a ccd A₀ h₀ L s Q E B F X N TT hd hu hret
  replace N : News h₀ L s.heap ((r, listOf #[.int 2 tk0, .ref o, .int v0 u0] c) :: (o, instObj 276 d) :: (d, D2 w T v0) :: rest) := N
  rw [ov hT, ov hC, ov hD, ov hR, ov hS] at F
  dsimp only [ifX, scX, lawX]
  k_steps
  (with_reducible rename News _ _ _ _ => N9)
  (with_reducible rename Fr _ _ _ _ => F9)
  exact hret _ _ _ _ _ ⟨rfl, rfl, rfl, _, _, T, v0, u0, rfl, hv0, ap⟩ F9 N9
local macro_rules | `(tactic| walk_at "call ref") => `(tactic| (k_here; (with_reducible show wpAny _ _ (call (Value.ref 360) [Value.ref _, Value.ref 306]) _ _ _); k_dflt (refine' ConL.use (bal2 _ ?c0 ?c1) ?kB ?kF ?kX ?kN ?kT ?kK ?kd ?ku ?_; (case kB => k_asm); (case kF => k_asm); (case kX => k_asm); (case kN => k_asm); (case kT => k_asm); (case kK => exact rfl); (case c0 => k_mem); (case c1 => k_mem); (case kd => ktr_room); (case ku => ktr_units); k_whole); intro v9 n9 h9 tk9 e9 F9 N9; obtain ⟨e9, e8⟩ := e9; subst e9; subst e8; (try k_sweep); (try dsimp only)))
theorem d2k2_2 (w : World) {v v0 : Int} {t tk td : Tok} {m : Str → Option Value} {r o d tl cl : Addr} {c : Nat} {T : Nat → Tok} {tk0 u0 : Tok} {rest : Led} (h5 : v.fmod 5 = 2) (hv0 : Ok 2 v0)
    (hT : m (Str.ofString "things") = some (.ref tl)) (hC : m (Str.ofString "codes") = some (.ref cl)) (hD : m (Str.ofString "deed") = some (.int 2 td)) (hR : m (Str.ofString "raw") = some (.int v t))
    (hS : m (Str.ofString "s") = some (.ref o)) (ap : Apart3 r o d rest) :
    SCon w ifX.1 m (chunk w 2 r o d tk0 c T v0 u0 ++ rest) (DeedR w 2 tl cl r tk0 c rest) := by
  unfold SCon
  intro p loose mean mg mb dp un gd a ccd A₀ h₀ L s Q E B F X N TT hd hu hret
  replace N : News h₀ L s.heap ((r, listOf #[.int 2 tk0, .ref o, .int v0 u0] c) :: (o, instObj 276 d) :: (d, D2 w T v0) :: rest) := N
  rw [ov hT, ov hC, ov hD, ov hR, ov hS] at F
  dsimp only [ifX, scX, lawX]
  k_steps
  (with_reducible rename News _ _ _ _ => N9)
  (with_reducible rename Fr _ _ _ _ => F9)
  exact hret _ _ _ _ _ ⟨rfl, rfl, rfl, _, _, T, v0, u0, rfl, hv0, ap⟩ F9 N9
local macro_rules | `(tactic| walk_at "call ref") => `(tactic| (k_here; (with_reducible show wpAny _ _ (call (Value.ref 360) [Value.ref _, Value.bytes #[] _]) _ _ _); k_dflt (refine' ConL.use (bae2 _ ?c0 ?c1) ?kB ?kF ?kX ?kN ?kT ?kK ?kd ?ku ?_; (case kB => k_asm); (case kF => k_asm); (case kX => k_asm); (case kN => k_asm); (case kT => k_asm); (case kK => exact rfl); (case c0 => k_mem); (case c1 => k_mem); (case kd => ktr_room); (case ku => ktr_units); k_whole); intro v9 n9 h9 tk9 e9 F9 N9; obtain ⟨e9, e8⟩ := e9; subst e9; subst e8; (try k_sweep); (try dsimp only)))
theorem d2k2_3 (w : World) {v v0 : Int} {t tk td : Tok} {m : Str → Option Value} {r o d tl cl : Addr} {c : Nat} {T : Nat → Tok} {tk0 u0 : Tok} {rest : Led} (h5 : v.fmod 5 = 3) (hv0 : Ok 2 v0)
    (hT : m (Str.ofString "things") = some (.ref tl)) (hC : m (Str.ofString "codes") = some (.ref cl)) (hD : m (Str.ofString "deed") = some (.int 2 td)) (hR : m (Str.ofString "raw") = some (.int v t))
    (hS : m (Str.ofString "s") = some (.ref o)) (ap : Apart3 r o d rest) :
    SCon w ifX.1 m (chunk w 2 r o d tk0 c T v0 u0 ++ rest) (DeedR w 2 tl cl r tk0 c rest) := by
  unfold SCon
  intro p loose mean mg mb dp un gd a ccd A₀ h₀ L s Q E B F X N TT hd hu hret
  replace N : News h₀ L s.heap ((r, listOf #[.int 2 tk0, .ref o, .int v0 u0] c) :: (o, instObj 276 d) :: (d, D2 w T v0) :: rest) := N
  rw [ov hT, ov hC, ov hD, ov hR, ov hS] at F
  dsimp only [ifX, scX, lawX]
  k_steps
  (with_reducible rename News _ _ _ _ => N9)
  (with_reducible rename Fr _ _ _ _ => F9)
  exact hret _ _ _ _ _ ⟨rfl, rfl, rfl, _, _, T, v0, u0, rfl, hv0, ap⟩ F9 N9
local macro_rules | `(tactic| walk_at "call ref") => `(tactic| (k_here; (with_reducible show wpAny _ _ (call (Value.ref 360) [Value.ref _, Value.bytes _ _]) _ _ _); k_dflt (refine' ConL.use (bat2 _ ?c0 ?c1) ?kB ?kF ?kX ?kN ?kT ?kK ?kd ?ku ?_; (case kB => k_asm); (case kF => k_asm); (case kX => k_asm); (case kN => k_asm); (case kT => k_asm); (case kK => exact rfl); (case c0 => k_mem); (case c1 => k_mem); (case kd => ktr_room); (case ku => ktr_units); k_whole); intro v9 n9 h9 tk9 e9 F9 N9; obtain ⟨e9, e8⟩ := e9; subst e9; subst e8; (try k_sweep); (try dsimp only)))
theorem d2k2_4 (w : World) {v v0 : Int} {t tk td : Tok} {m : Str → Option Value} {r o d tl cl : Addr} {c : Nat} {T : Nat → Tok} {tk0 u0 : Tok} {rest : Led} (h5 : v.fmod 5 = 4) (hv0 : Ok 2 v0)
    (hT : m (Str.ofString "things") = some (.ref tl)) (hC : m (Str.ofString "codes") = some (.ref cl)) (hD : m (Str.ofString "deed") = some (.int 2 td)) (hR : m (Str.ofString "raw") = some (.int v t))
    (hS : m (Str.ofString "s") = some (.ref o)) (ap : Apart3 r o d rest) :
    SCon w ifX.1 m (chunk w 2 r o d tk0 c T v0 u0 ++ rest) (DeedR w 2 tl cl r tk0 c rest) := by
  unfold SCon
  intro p loose mean mg mb dp un gd a ccd A₀ h₀ L s Q E B F X N TT hd hu hret
  replace N : News h₀ L s.heap ((r, listOf #[.int 2 tk0, .ref o, .int v0 u0] c) :: (o, instObj 276 d) :: (d, D2 w T v0) :: rest) := N
  rw [ov hT, ov hC, ov hD, ov hR, ov hS] at F
  dsimp only [ifX, scX, lawX]
  k_steps
  (with_reducible rename News _ _ _ _ => N9)
  (with_reducible rename Fr _ _ _ _ => F9)
  exact hret _ _ _ _ _ ⟨rfl, rfl, rfl, _, _, T, v0, u0, rfl, hv0, ap⟩ F9 N9
end Mine
-- part SI
namespace Mine
/-- what a run of statements of the law does in the law's own frame -/
def SCs (w : World) (sts : List Stmt) (m : Str → Option Value) (news : Led) (R : Flow → (Str → Option Value) → Led → Prop) : Prop :=
  ∀ (p : Program) (loose : List Str) (mean : ExcName → Option Value) (mg mb : Str → Option Value) (dp un : Nat) (gd : Option (List Code)) (a : Addr) (ccd : Value) (A₀ : Around) (h₀ : Heap) (L : Addr) (s : Shared) (Q : Flow → Shared → Prop) (E : Value → Shared → Prop),
    Below A₀ h₀ [] h₀ → Fr h₀ L s.heap m → (hd.heap_39 w.params).In h₀ → News h₀ L s.heap news → Top p loose mean mg mb h₀ →
    dp + 40 < recursionLimit → un + 400 < cLine →
    (∀ f m' news' h' tk', R f m' news' → Fr h₀ L h' m' → News h₀ L h' news' → Q f { s with heap := h', toks := tk' }) →
    wpAny (model P0 w) (ktrTop dp un gd (Str.ofString "law") scX.1 L a ccd [] []) (execs sts (envOf (Str.ofString "law") scX.1 L a ccd)) Q E s
section
variable {w : World} {st : Stmt} {sts : List Stmt} {m : Str → Option Value} {news news' : Led} {R R₁ : Flow → (Str → Option Value) → Led → Prop}
theorem SCs.nil (h : R .next m news) : SCs w [] m news R := by
  intro p loose mean mg mb dp un gd a ccd A₀ h₀ L s Q E B F X₀ N TT hd hu hret
  exact wpAny_execs_nil (hret _ _ _ _ _ h F N)
theorem SCs.cons (h : SCon w st m news R₁) (hr : ∀ f m' n', R₁ f m' n' → f = .next ∧ SCs w sts m' n' R) : SCs w (st :: sts) m news R := by
  intro p loose mean mg mb dp un gd a ccd A₀ h₀ L s Q E B F X₀ N TT hd hu hret
  refine wpAny_execs_cons (h p loose mean mg mb dp un gd a ccd A₀ h₀ L s _ E B F X₀ N TT hd hu ?_)
  intro f m' n' h' tk' r F' N'
  obtain ⟨rfl, C⟩ := hr f m' n' r
  exact C p loose mean mg mb dp un gd a ccd A₀ h₀ L { s with heap := h', toks := tk' } Q E B F' X₀ N' TT hd hu hret
theorem SCon.imp (h : SCon w st m news R₁) (hr : ∀ f m' n', R₁ f m' n' → R f m' n') : SCon w st m news R := by
  intro p loose mean mg mb dp un gd a ccd A₀ h₀ L s Q E B F X₀ N TT hd hu hret
  exact h p loose mean mg mb dp un gd a ccd A₀ h₀ L s _ E B F X₀ N TT hd hu fun f m' n' h' tk' r => hret f m' n' h' tk' (hr f m' n' r)
theorem SCon.sub (h : SCon w st m news R) (hs : ∀ p ∈ news, p ∈ news') : SCon w st m news' R := by
  intro p loose mean mg mb dp un gd a ccd A₀ h₀ L s Q E B F X₀ N TT hd hu hret
  exact h p loose mean mg mb dp un gd a ccd A₀ h₀ L s _ E B F X₀ (fun p hp => N p (hs p hp)) TT hd hu hret
theorem SCs.sub (h : SCs w sts m news R) (hs : ∀ p ∈ news, p ∈ news') : SCs w sts m news' R := by
  intro p loose mean mg mb dp un gd a ccd A₀ h₀ L s Q E B F X₀ N TT hd hu hret
  exact h p loose mean mg mb dp un gd a ccd A₀ h₀ L s _ E B F X₀ (fun p hp => N p (hs p hp)) TT hd hu hret
def Loc (x : Str) : Prop := ∀ (L a : Addr) (cd : Value), (envOf (Str.ofString "law") scX.1 L a cd).kindOf x = some .local
/-- a loop of the law over a list that a name holds -/
theorem for_list {target : PySem.Expr} {y : Str} {py pos : Pos} {body : List Stmt} {ax : Addr} {lo : Obj} {vs : List Value} {n : Nat} (J : Nat → (Str → Option Value) → Led → Prop)
    (hy : m y = some (.ref ax)) (hky : Loc y) (hyd : (y == ("__debug__" : Str)) = false) (hm : (ax, lo) ∈ news) (hc : lo.cls = .type "list") (hdt : lo.data = .seq vs.toArray n) (hj : J 0 m news)
    (turn : ∀ (i : Nat) (v : Value) (I : Addr) (oI : Obj) (m₁ : Str → Option Value) (n₁ : Led), vs[i]? = some v → J i m₁ n₁ → (∀ p ∈ n₁, p.1 ≠ I) → (ax, lo) ∈ n₁ →
      ∀ (p : Program) (loose : List Str) (mean : ExcName → Option Value) (mg mb : Str → Option Value) (dp un : Nat) (gd : Option (List Code)) (a : Addr) (ccd : Value) (A₀ : Around) (h₀ : Heap) (L : Addr) (s : Shared) (Q : Flow → Shared → Prop),
      Below A₀ h₀ [] h₀ → Fr h₀ L s.heap m₁ → (hd.heap_39 w.params).In h₀ → News h₀ L s.heap ((I, oI) :: n₁) → Top p loose mean mg mb h₀ →
      dp + 40 < recursionLimit → un + 400 < cLine →
      (∀ m' n' h' tk', (∀ p ∈ n', p.1 ≠ I) → (ax, lo) ∈ n' → J (i + 1) m' n' → Fr h₀ L h' m' → News h₀ L h' ((I, oI) :: n') → Q .next { s with heap := h', toks := tk' }) →
      wpAny (model P0 w) (ktrTop dp un gd (Str.ofString "law") scX.1 L a ccd [] []) (assign target (envOf (Str.ofString "law") scX.1 L a ccd) v) (fun _ s₂ => wpAny (model P0 w) (ktrTop dp un gd (Str.ofString "law") scX.1 L a ccd [] []) (execs body (envOf (Str.ofString "law") scX.1 L a ccd)) Q (fun _ _ => False) s₂) (fun _ _ => False) s) :
    SCon w (.For target (.Name y py) body [] pos) m news (fun f m' n' => f = .next ∧ (ax, lo) ∈ n' ∧ J vs.length m' n') := by
  intro p loose mean mg mb dp un gd a ccd A₀ h₀ L s Q E B F X₀ N TT hd' hu hret
  refine wpAny_noRaise ?_
  refine For_turns F ?_ (fun _ => rfl) PassesOwn.never
  refine ld F hy ?_ rfl (hky L a ccd) hyd
  refine iter_listJ (lo := lo) (vs := vs) (n := n) J rfl F N hm hc hdt hj ?_ ?_
  · intro i v I oI m₁ n₁ h tk hv _ hJ ho hm' F' N'
    exact turn i v I oI m₁ n₁ hv hJ ho hm' p loose mean mg mb dp un gd a ccd A₀ h₀ L { s with heap := h, toks := tk } _ B F' X₀ N' TT hd' hu
      (fun m' n' h' tk' ho' hm'' hJ' F'' N'' => ⟨h', tk', m', n', rfl, F'', N'', ho', hm'', hJ'⟩)
  · intro m₁ n₁ h tk hJ hm' F' N'
    exact hret _ _ _ _ _ ⟨rfl, hm', hJ⟩ F' N'
/-- the same, the loop's name one alone -/
theorem for_name {x y : Str} {px py pos : Pos} {body : List Stmt} {ax : Addr} {lo : Obj} {vs : List Value} {n : Nat} (J : Nat → (Str → Option Value) → Led → Prop)
    (hy : m y = some (.ref ax)) (hky : Loc y) (hkx : Loc x) (hyd : (y == ("__debug__" : Str)) = false) (hm : (ax, lo) ∈ news) (hc : lo.cls = .type "list") (hdt : lo.data = .seq vs.toArray n) (hj : J 0 m news)
    (turn : ∀ (i : Nat) (v : Value) (I : Addr) (oI : Obj) (m₁ : Str → Option Value) (n₁ : Led), vs[i]? = some v → J i m₁ n₁ → (∀ p ∈ n₁, p.1 ≠ I) → (ax, lo) ∈ n₁ →
      SCs w body (fun z => if z = x then some v else m₁ z) ((I, oI) :: n₁) (fun f m' n' => f = .next ∧ ∃ n'', (∀ p ∈ (I, oI) :: n'', p ∈ n') ∧ (∀ p ∈ n'', p.1 ≠ I) ∧ (ax, lo) ∈ n'' ∧ J (i + 1) m' n'')) :
    SCon w (.For (.Name x px) (.Name y py) body [] pos) m news (fun f m' n' => f = .next ∧ (ax, lo) ∈ n' ∧ J vs.length m' n') := by
  refine for_list J hy hky hyd hm hc hdt hj ?_
  intro i v I oI m₁ n₁ hv hJ ho hm' p loose mean mg mb dp un gd a ccd A₀ h₀ L s Q B F X₀ N TT hd' hu hret
  refine PyProof.Rows.assign_Name ?_
  refine stN F N (fun h' F' N' => ?_) rfl (hkx L a ccd)
  refine turn i v I oI m₁ n₁ hv hJ ho hm' p loose mean mg mb dp un gd a ccd A₀ h₀ L { s with heap := h', toks := s.toks + 1 } Q _ B F' X₀ N' TT hd' hu ?_
  rintro f m' n' h₂ tk₂ ⟨rfl, n'', hs, ho', hm'', hJ'⟩ F₂ N₂
  exact hret m' n'' h₂ tk₂ ho' hm'' hJ' F₂ (fun p hp => N₂ p (hs p hp))
end
end Mine
-- part PR
namespace Mine
local macro_rules | `(tactic| k_room) => `(tactic| ktr_room)
def b0X : (p : Stmt) ×' ((nth 3 lawX.1.1).bind forOf).bind (nth 0) = some p := ⟨_, rfl⟩
def b1X : (p : Stmt) ×' ((nth 3 lawX.1.1).bind forOf).bind (nth 1) = some p := ⟨_, rfl⟩
def b2X : (p : Stmt) ×' ((nth 3 lawX.1.1).bind forOf).bind (nth 2) = some p := ⟨_, rfl⟩
def b4X : (p : Stmt) ×' ((nth 3 lawX.1.1).bind forOf).bind (nth 4) = some p := ⟨_, rfl⟩
def f0X : (p : Stmt) ×' (forOf b4X.1).bind (nth 0) = some p := ⟨_, rfl⟩
theorem news_tl' {h₀ h : Heap} {L : Addr} {x : Addr × Obj} {n : Led} (N : News h₀ L h (x :: n)) : News h₀ L h n := fun p hp => N p (.tail _ hp)
theorem ps0 (w : World) {X : Int} {tx : Tok} {m : Str → Option Value} {tl cl : Addr} {news : Led} (hX0 : 0 ≤ X) (hX1 : X < 1048576)
    (hT : m (Str.ofString "things") = some (.ref tl)) (hC : m (Str.ofString "codes") = some (.ref cl)) (hX : m (Str.ofString "x") = some (.int X tx)) :
    SCon w b0X.1 m news (fun f m' n' => f = .next ∧ n' = news ∧ m' (Str.ofString "things") = some (.ref tl) ∧ m' (Str.ofString "codes") = some (.ref cl) ∧ m' (Str.ofString "x") = some (.int X tx) ∧ ∃ t1 t2 t3, m' (Str.ofString "slot") = some (.int (X.fmod 6) t1) ∧ m' (Str.ofString "deed") = some (.int ((X.fdiv 6).fmod 8) t2) ∧ m' (Str.ofString "raw") = some (.int ((X.fdiv 48).fmod 256) t3)) := by
  unfold SCon
  intro p loose mean mg mb dp un gd a ccd A₀ h₀ L s Q E B F X₀ N TT hd hu hret
  rw [ov hT, ov hC, ov hX] at F
  dsimp only [b0X, scX, lawX]
  k_steps
  (with_reducible rename News _ _ _ _ => N9)
  (with_reducible rename Fr _ _ _ _ => F9)
  refine hret _ _ news _ _ ?R F9 (news_tl' N9)
  exact ⟨rfl, rfl, rfl, rfl, rfl, _, _, _, rfl, rfl, rfl⟩
local macro_rules | `(tactic| walk_at "subscriptTail") => `(tactic| (k_here; (with_reducible show wpAny _ _ (subscriptTail _ _ (Value.ref _) (Value.int _ _)) _ _ _); (with_unfolding_all refine' item_litK ?k1 ?k2 ?k3 ?k4 ?_ ?k6; (case k1 => exact News.isList (by assumption) (by assumption)); (case k2 => assumption); (case k3 => assumption); (case k4 => assumption); (case k6 => with_unfolding_all rfl); k_whole)))
theorem ps1 (w : World) {vd vr : Value} {X : Int} {tx : Tok} {m : Str → Option Value} {tl cl r : Addr} {news : Led} {j : Int} {t1 : Tok} {vs : List Value} {a : Nat}
    (hT : m (Str.ofString "things") = some (.ref tl)) (hC : m (Str.ofString "codes") = some (.ref cl)) (hX : m (Str.ofString "x") = some (.int X tx)) (hJ : m (Str.ofString "slot") = some (.int j t1)) (hD : m (Str.ofString "deed") = some vd) (hR : m (Str.ofString "raw") = some vr)
    (hm : (tl, listOf vs.toArray a) ∈ news) (hj0 : 0 ≤ j) (hj1 : j < 2 ^ 63) (hv : vs[j.toNat]? = some (.ref r)) :
    SCon w b1X.1 m news (fun f m' n' => f = .next ∧ n' = news ∧ m' (Str.ofString "things") = some (.ref tl) ∧ m' (Str.ofString "codes") = some (.ref cl) ∧ m' (Str.ofString "x") = some (.int X tx) ∧ m' (Str.ofString "deed") = some vd ∧ m' (Str.ofString "raw") = some vr ∧ m' (Str.ofString "row") = some (.ref r)) := by
  unfold SCon
  intro p loose mean mg mb dp un gd a ccd A₀ h₀ L s Q E B F X₀ N TT hd hu hret
  rw [ov hT, ov hC, ov hX, ov hJ, ov hD, ov hR] at F
  dsimp only [b1X, scX, lawX]
  k_steps
  (with_reducible rename News _ _ _ _ => N9)
  (with_reducible rename Fr _ _ _ _ => F9)
  refine hret _ _ news _ _ ?R F9 N9
  exact ⟨rfl, rfl, rfl, rfl, rfl, rfl, rfl, rfl⟩
local macro_rules | `(tactic| k_mem) => `(tactic| assumption)
local macro_rules | `(tactic| walk_at "subscriptTail") => `(tactic| (k_here; (with_reducible show wpAny _ _ (subscriptTail _ _ (Value.ref _) (Value.int _ _)) _ _ _); (with_unfolding_all refine' item_litK ?k1 ?k2 ?k3 ?k4 ?_ ?k6; (case k1 => exact News.isList (by assumption) (by assumption)); (case k2 => decide); (case k3 => decide); (case k4 => exact rfl); (case k6 => with_unfolding_all rfl); k_whole)))
theorem ps2 (w : World) {vd vr vk vo vv : Value} {X : Int} {tx : Tok} {m : Str → Option Value} {tl cl r : Addr} {news : Led} {c : Nat}
    (hT : m (Str.ofString "things") = some (.ref tl)) (hC : m (Str.ofString "codes") = some (.ref cl)) (hX : m (Str.ofString "x") = some (.int X tx)) (hD : m (Str.ofString "deed") = some vd) (hR : m (Str.ofString "raw") = some vr) (hW : m (Str.ofString "row") = some (.ref r))
    (hm : (r, listOf #[vk, vo, vv] c) ∈ news) :
    SCon w b2X.1 m news (fun f m' n' => f = .next ∧ n' = news ∧ m' (Str.ofString "things") = some (.ref tl) ∧ m' (Str.ofString "codes") = some (.ref cl) ∧ m' (Str.ofString "x") = some (.int X tx) ∧ m' (Str.ofString "deed") = some vd ∧ m' (Str.ofString "raw") = some vr ∧ m' (Str.ofString "row") = some (.ref r) ∧ m' (Str.ofString "kind") = some vk ∧ m' (Str.ofString "s") = some vo) := by
  unfold SCon
  intro p loose mean mg mb dp un gd a ccd A₀ h₀ L s Q E B F X₀ N TT hd hu hret
  rw [ov hT, ov hC, ov hX, ov hD, ov hR, ov hW] at F
  dsimp only [b2X, scX, lawX]
  k_steps
  (with_reducible rename News _ _ _ _ => N9)
  (with_reducible rename Fr _ _ _ _ => F9)
  refine hret _ _ news _ _ ?R F9 (fun p hp => N9 p (by first | exact hp | exact .tail _ hp | exact .tail _ (.tail _ hp)))
  exact ⟨rfl, rfl, rfl, rfl, rfl, rfl, rfl, rfl, rfl, rfl⟩
local macro_rules | `(tactic| walk_at "call ref") => `(tactic| (k_here; (with_reducible show wpAny _ _ (call (Value.ref 334) [Value.int 0 _, Value.ref _, Value.int _ _]) _ _ _); k_dflt (refine' Con.use (same0 _ ?c1 ?c2 ?c3) ?kB ?kF ?kX ?kN ?kT ?kK ?kd ?ku ?_; (case kB => k_asm); (case kF => k_asm); (case kX => k_asm); (case kN => k_asm); (case kT => k_asm); (case kK => exact rfl); (case c2 => k_mem); (case c3 => k_mem); (case c1 => assumption); (case kd => ktr_room); (case ku => ktr_units); k_whole); intro v9 n9 h9 tk9 e9 F9 N9; obtain ⟨e9, e8⟩ := e9; subst e9; subst e8; (try k_sweep); (try dsimp only)))
theorem chk0 (w : World) {v : Int} {tk u : Tok} {T : Nat → Tok} {m : Str → Option Value} {tl cl r o d : Addr} {news : Led} {c : Nat} (hv : Ok 0 v)
    (hT : m (Str.ofString "things") = some (.ref tl)) (hC : m (Str.ofString "codes") = some (.ref cl)) (hO : m (Str.ofString "other") = some (.ref r))
    (hm : (r, listOf #[.int 0 tk, .ref o, .int v u] c) ∈ news) (ho : (o, instObj 126 d) ∈ news) (hdd : (d, D0 w T v) ∈ news) :
    SCon w f0X.1 m news (fun f m' n' => f = .next ∧ n' = news ∧ m' (Str.ofString "things") = some (.ref tl) ∧ m' (Str.ofString "codes") = some (.ref cl)) := by
  unfold SCon
  intro p loose mean mg mb dp un gd a ccd A₀ h₀ L s Q E B F X₀ N TT hd hu hret
  rw [ov hT, ov hC, ov hO] at F
  dsimp only [f0X, b4X, scX, lawX]
  k_steps
  (with_reducible rename News _ _ _ _ => N9)
  (with_reducible rename Fr _ _ _ _ => F9)
  refine hret _ _ news _ _ ?R F9 N9
  exact ⟨rfl, rfl, rfl, rfl⟩
local macro_rules | `(tactic| walk_at "call ref") => `(tactic| (k_here; (with_reducible show wpAny _ _ (call (Value.ref 334) [Value.int 1 _, Value.ref _, Value.int _ _]) _ _ _); k_dflt (refine' Con.use (same1 _ ?c1 ?c2 ?c3) ?kB ?kF ?kX ?kN ?kT ?kK ?kd ?ku ?_; (case kB => k_asm); (case kF => k_asm); (case kX => k_asm); (case kN => k_asm); (case kT => k_asm); (case kK => exact rfl); (case c2 => k_mem); (case c3 => k_mem); (case c1 => assumption); (case kd => ktr_room); (case ku => ktr_units); k_whole); intro v9 n9 h9 tk9 e9 F9 N9; obtain ⟨e9, e8⟩ := e9; subst e9; subst e8; (try k_sweep); (try dsimp only)))
theorem chk1 (w : World) {v : Int} {tk u : Tok} {T : Nat → Tok} {m : Str → Option Value} {tl cl r o d : Addr} {news : Led} {c : Nat} (hv : Ok 1 v)
    (hT : m (Str.ofString "things") = some (.ref tl)) (hC : m (Str.ofString "codes") = some (.ref cl)) (hO : m (Str.ofString "other") = some (.ref r))
    (hm : (r, listOf #[.int 1 tk, .ref o, .int v u] c) ∈ news) (ho : (o, instObj 187 d) ∈ news) (hdd : (d, D1 w T v) ∈ news) :
    SCon w f0X.1 m news (fun f m' n' => f = .next ∧ n' = news ∧ m' (Str.ofString "things") = some (.ref tl) ∧ m' (Str.ofString "codes") = some (.ref cl)) := by
  unfold SCon
  intro p loose mean mg mb dp un gd a ccd A₀ h₀ L s Q E B F X₀ N TT hd hu hret
  rw [ov hT, ov hC, ov hO] at F
  dsimp only [f0X, b4X, scX, lawX]
  k_steps
  (with_reducible rename News _ _ _ _ => N9)
  (with_reducible rename Fr _ _ _ _ => F9)
  refine hret _ _ news _ _ ?R F9 N9
  exact ⟨rfl, rfl, rfl, rfl⟩
local macro_rules | `(tactic| walk_at "call ref") => `(tactic| (k_here; (with_reducible show wpAny _ _ (call (Value.ref 334) [Value.int 2 _, Value.ref _, Value.int _ _]) _ _ _); k_dflt (refine' Con.use (same2 _ ?c1 ?c2 ?c3) ?kB ?kF ?kX ?kN ?kT ?kK ?kd ?ku ?_; (case kB => k_asm); (case kF => k_asm); (case kX => k_asm); (case kN => k_asm); (case kT => k_asm); (case kK => exact rfl); (case c2 => k_mem); (case c3 => k_mem); (case c1 => assumption); (case kd => ktr_room); (case ku => ktr_units); k_whole); intro v9 n9 h9 tk9 e9 F9 N9; obtain ⟨e9, e8⟩ := e9; subst e9; subst e8; (try k_sweep); (try dsimp only)))
theorem chk2 (w : World) {v : Int} {tk u : Tok} {T : Nat → Tok} {m : Str → Option Value} {tl cl r o d : Addr} {news : Led} {c : Nat} (hv : Ok 2 v)
    (hT : m (Str.ofString "things") = some (.ref tl)) (hC : m (Str.ofString "codes") = some (.ref cl)) (hO : m (Str.ofString "other") = some (.ref r))
    (hm : (r, listOf #[.int 2 tk, .ref o, .int v u] c) ∈ news) (ho : (o, instObj 276 d) ∈ news) (hdd : (d, D2 w T v) ∈ news) :
    SCon w f0X.1 m news (fun f m' n' => f = .next ∧ n' = news ∧ m' (Str.ofString "things") = some (.ref tl) ∧ m' (Str.ofString "codes") = some (.ref cl)) := by
  unfold SCon
  intro p loose mean mg mb dp un gd a ccd A₀ h₀ L s Q E B F X₀ N TT hd hu hret
  rw [ov hT, ov hC, ov hO] at F
  dsimp only [f0X, b4X, scX, lawX]
  k_steps
  (with_reducible rename News _ _ _ _ => N9)
  (with_reducible rename Fr _ _ _ _ => F9)
  refine hret _ _ news _ _ ?R F9 N9
  exact ⟨rfl, rfl, rfl, rfl⟩
end Mine
-- part ML
namespace Mine
theorem chkK (w : World) {t : Th} {m : Str → Option Value} {tl cl : Addr} {n : Led} (hk : t.k < 3) (hok : Ok t.k t.v)
    (hT : m (Str.ofString "things") = some (.ref tl)) (hC : m (Str.ofString "codes") = some (.ref cl)) (hO : m (Str.ofString "other") = some (.ref t.r)) (hm : ∀ p ∈ t.led w, p ∈ n) :
    SCon w f0X.1 m n (fun f m' n' => f = .next ∧ n' = n ∧ m' (Str.ofString "things") = some (.ref tl) ∧ m' (Str.ofString "codes") = some (.ref cl)) := by
  obtain ⟨k, r, o, d, tk, c, T, v, u⟩ := t
  have h0 := hm _ (.head _)
  have h1 := hm _ (.tail _ (.head _))
  have h2 := hm _ (.tail _ (.tail _ (.head _)))
  match k, hk with
  | 0, _ => exact chk0 w hok hT hC hO h0 h1 h2
  | 1, _ => exact chk1 w hok hT hC hO h0 h1 h2
  | 2, _ => exact chk2 w hok hT hC hO h0 h1 h2
theorem chkAll (w : World) {ts : List Th} {m : Str → Option Value} {tl cl : Addr} {a : Nat} {n : Led} (hk : ∀ t ∈ ts, t.k < 3) (hok : ∀ t ∈ ts, Ok t.k t.v)
    (hT : m (Str.ofString "things") = some (.ref tl)) (hC : m (Str.ofString "codes") = some (.ref cl)) (hm : (tl, listOf (refT ts).toArray a) ∈ n) (hms : ∀ t ∈ ts, ∀ p ∈ t.led w, p ∈ n) :
    SCon w b4X.1 m n (fun f m' n' => f = .next ∧ n' = n ∧ m' (Str.ofString "things") = some (.ref tl) ∧ m' (Str.ofString "codes") = some (.ref cl)) := by
  refine SCon.imp (for_name (x := Str.ofString "other") (y := Str.ofString "things") (vs := refT ts) (J := fun _ m' n' => n' = n ∧ m' (Str.ofString "things") = some (.ref tl) ∧ m' (Str.ofString "codes") = some (.ref cl)) hT (fun _ _ _ => rfl) (fun _ _ _ => rfl) (by decide) hm rfl rfl ⟨rfl, hT, hC⟩ ?_) ?_
  · rintro i v I oI m₁ n₁ hv ⟨rfl, hT₁, hC₁⟩ ho hm'
    rw [List.getElem?_map, Option.map_eq_some_iff] at hv
    obtain ⟨t, ht, rfl⟩ := hv
    have hmem := List.mem_of_getElem? ht
    refine SCs.cons (chkK w (t := t) (tl := tl) (cl := cl) (hk t hmem) (hok t hmem) hT₁ hC₁ rfl fun p hp => .tail _ (hms t hmem p hp)) ?_
    rintro f m' n' ⟨rfl, rfl, hT', hC'⟩
    exact ⟨rfl, SCs.nil ⟨rfl, n₁, fun _ h => h, ho, hm', rfl, hT', hC'⟩⟩
  · rintro f m' n' ⟨rfl, _, rfl, hT', hC'⟩
    exact ⟨rfl, rfl, hT', hC'⟩
theorem deedT (w : World) {t : Th} {m : Str → Option Value} {tl cl : Addr} {rest : Led} {D R : Int} {td tr : Tok} (hk : t.k < 3) (hok : Ok t.k t.v) (hD0 : 0 ≤ D) (hD7 : D < 7) (h0 : 0 ≤ R) (h1 : R < 256)
    (hT : m (Str.ofString "things") = some (.ref tl)) (hC : m (Str.ofString "codes") = some (.ref cl)) (hD : m (Str.ofString "deed") = some (.int D td)) (hR : m (Str.ofString "raw") = some (.int R tr))
    (hW : m (Str.ofString "row") = some (.ref t.r)) (hK : m (Str.ofString "kind") = some (.int t.k t.tk)) (hS : m (Str.ofString "s") = some (.ref t.o)) (ap : Apart3 t.r t.o t.d rest) :
    SCon w ifX.1 m (t.led w ++ rest) (DeedR w t.k tl cl t.r t.tk t.c rest) := by
  obtain ⟨k, r, o, d, tk, c, T, v, u⟩ := t
  have hr : R.fmod 5 = 0 ∨ R.fmod 5 = 1 ∨ R.fmod 5 = 2 ∨ R.fmod 5 = 3 ∨ R.fmod 5 = 4 := by
    rw [Int.fmod_eq_emod_of_nonneg R (by decide)]
    omega
  have hd : D = 0 ∨ D = 1 ∨ D = 2 ∨ D = 3 ∨ D = 4 ∨ D = 5 ∨ D = 6 := by omega
  match k, hk with
  | 0, _ =>
    rcases hd with rfl | rfl | rfl | rfl | rfl | rfl | rfl
    · exact d0k0 w h0 h1 hok hT hC hD hR hW hK hS ap
    · exact d1k0 w h0 h1 hok hT hC hD hR hW hK hS ap
    · rcases hr with h5 | h5 | h5 | h5 | h5
      · exact d2k0_0 (tk := tk) w h5 hok hT hC hD hR hS ap
      · exact d2k0_1 (tk := tk) w h5 hok hT hC hD hR hS ap
      · exact d2k0_2 (tk := tk) w h5 hok hT hC hD hR hS ap
      · exact d2k0_3 (tk := tk) w h5 hok hT hC hD hR hS ap
      · exact d2k0_4 (tk := tk) w h5 hok hT hC hD hR hS ap
    · exact d3k0 w h0 h1 hok hT hC hD hR hW hK hS ap
    · exact d4k0 w h0 h1 hok hT hC hD hR hW hK hS ap
    · exact d5k0 w h0 h1 hok hT hC hD hR hW hK hS ap
    · exact d6k0 w h0 h1 hok hT hC hD hR hW hK hS ap
  | 1, _ =>
    rcases hd with rfl | rfl | rfl | rfl | rfl | rfl | rfl
    · exact d0k1 w h0 h1 hok hT hC hD hR hW hK hS ap
    · exact d1k1 w h0 h1 hok hT hC hD hR hW hK hS ap
    · rcases hr with h5 | h5 | h5 | h5 | h5
      · exact d2k1_0 (tk := tk) w h5 hok hT hC hD hR hS ap
      · exact d2k1_1 (tk := tk) w h5 hok hT hC hD hR hS ap
      · exact d2k1_2 (tk := tk) w h5 hok hT hC hD hR hS ap
      · exact d2k1_3 (tk := tk) w h5 hok hT hC hD hR hS ap
      · exact d2k1_4 (tk := tk) w h5 hok hT hC hD hR hS ap
    · exact d3k1 w h0 h1 hok hT hC hD hR hW hK hS ap
    · exact d4k1 w h0 h1 hok hT hC hD hR hW hK hS ap
    · exact d5k1 w h0 h1 hok hT hC hD hR hW hK hS ap
    · exact d6k1 w h0 h1 hok hT hC hD hR hW hK hS ap
  | 2, _ =>
    rcases hd with rfl | rfl | rfl | rfl | rfl | rfl | rfl
    · exact d0k2 w h0 h1 hok hT hC hD hR hW hK hS ap
    · exact d1k2 w h0 h1 hok hT hC hD hR hW hK hS ap
    · rcases hr with h5 | h5 | h5 | h5 | h5
      · exact d2k2_0 (tk := tk) w h5 hok hT hC hD hR hS ap
      · exact d2k2_1 (tk := tk) w h5 hok hT hC hD hR hS ap
      · exact d2k2_2 (tk := tk) w h5 hok hT hC hD hR hS ap
      · exact d2k2_3 (tk := tk) w h5 hok hT hC hD hR hS ap
      · exact d2k2_4 (tk := tk) w h5 hok hT hC hD hR hS ap
    · exact d3k2 w h0 h1 hok hT hC hD hR hW hK hS ap
    · exact d4k2 w h0 h1 hok hT hC hD hR hW hK hS ap
    · exact d5k2 w h0 h1 hok hT hC hD hR hW hK hS ap
    · exact d6k2 w h0 h1 hok hT hC hD hR hW hK hS ap
def LInv (w : World) (vs : List Value) (tl cl : Addr) (a : Nat) (base : Led) (i : Nat) (m : Str → Option Value) (n : Led) : Prop :=
  m (Str.ofString "things") = some (.ref tl) ∧ m (Str.ofString "codes") = some (.ref cl) ∧ ∃ (ts : List Th) (cs : List Cd) (b : Nat), ts.map (·.k) = [0, 0, 1, 1, 2, 2] ∧ (∀ t ∈ ts, Ok t.k t.v) ∧ (∀ c ∈ cs, c.ok) ∧
    n.Perm (layL w tl cl a b ts cs base) ∧ (keys n).Nodup ∧ cs.length ≤ i ∧ ((∃ j X t, j < i ∧ vs[j]? = some (Value.int X t) ∧ (X.fdiv 6).fmod 8 = 7) → cs ≠ [])
theorem kinds_lt {ts : List Th} (h : ts.map (·.k) = [0, 0, 1, 1, 2, 2]) : ∀ t ∈ ts, t.k < 3 := by
  intro t ht
  have : t.k ∈ ts.map (·.k) := List.mem_map_of_mem ht
  rw [h] at this
  revert this
  generalize t.k = k
  intro this
  simp only [List.mem_cons, List.not_mem_nil, or_false] at this
  omega
theorem lay_ts {w : World} {tl cl : Addr} {a b : Nat} {ts : List Th} {cs : List Cd} {base : Led} : (tl, listOf (refT ts).toArray a) ∈ layL w tl cl a b ts cs base := .head _
theorem lay_th {w : World} {tl cl : Addr} {a b : Nat} {ts : List Th} {cs : List Cd} {base : Led} : ∀ t ∈ ts, ∀ p ∈ t.led w, p ∈ layL w tl cl a b ts cs base := fun _ ht p hp => .tail _ (.tail _ (List.mem_append_left _ (flatT_mem w ht p hp)))
theorem lay_cd {w : World} {tl cl : Addr} {a b : Nat} {ts : List Th} {cs : List Cd} {base : Led} : ∀ t ∈ cs, ∀ p ∈ t.led w, p ∈ layL w tl cl a b ts cs base := fun _ ht p hp => .tail _ (.tail _ (List.mem_append_right _ (List.mem_append_left _ (flatC_mem w ht p hp))))
theorem lay_base {w : World} {tl cl : Addr} {a b : Nat} {ts : List Th} {cs : List Cd} {base : Led} : ∀ p ∈ base, p ∈ layL w tl cl a b ts cs base := fun _ hp => .tail _ (.tail _ (List.mem_append_right _ (List.mem_append_right _ hp)))
theorem nodup_head {x : Addr × Obj} {n : Led} (h : (keys (x :: n)).Nodup) : (∀ p ∈ n, p.1 ≠ x.1) ∧ (keys n).Nodup := by
  rw [keys_cons, List.nodup_cons] at h
  exact ⟨mem_keys.mp h.1, h.2⟩
theorem nodup_more {x : Addr × Obj} {n : Led} (h : (keys n).Nodup) (ho : ∀ p ∈ n, p.1 ≠ x.1) : (keys (x :: n)).Nodup := by
  rw [keys_cons, List.nodup_cons]
  exact ⟨mem_keys.mpr ho, h⟩
/-- a turn's end, from the deed's own ledger -/
theorem turn_end (w : World) {vs : List Value} {tl cl : Addr} {a : Nat} {base : Led} {i : Nat} {m : Str → Option Value} {n n'' : Led} {I : Addr} {oI : Obj} {ts : List Th} {cs : List Cd} {b : Nat} {ax : Addr} {lo : Obj} (hk : ts.map (·.k) = [0, 0, 1, 1, 2, 2]) (hok : ∀ t ∈ ts, Ok t.k t.v) (hco : ∀ c ∈ cs, c.ok)
    (P : n.Perm ((I, oI) :: n'')) (P' : n''.Perm (layL w tl cl a b ts cs base)) (hnd : (keys n).Nodup) (hl : cs.length ≤ i + 1) (hne : (∃ j X t, j < i + 1 ∧ vs[j]? = some (Value.int X t) ∧ (X.fdiv 6).fmod 8 = 7) → cs ≠ [])
    (hT : m (Str.ofString "things") = some (.ref tl)) (hC : m (Str.ofString "codes") = some (.ref cl)) (hax : (ax, lo) ∈ base) :
    SCs w [b4X.1] m n (fun f m' n' => f = .next ∧ ∃ n'', (∀ p ∈ (I, oI) :: n'', p ∈ n') ∧ (∀ p ∈ n'', p.1 ≠ I) ∧ (ax, lo) ∈ n'' ∧ LInv w vs tl cl a base (i + 1) m' n'') := by
  have up : ∀ p ∈ layL w tl cl a b ts cs base, p ∈ n := fun p hp => P.mem_iff.mpr (.tail _ (P'.mem_iff.mpr hp))
  refine SCs.cons (chkAll w (kinds_lt hk) hok hT hC (up _ lay_ts) fun t ht p hp => up _ (lay_th t ht p hp)) ?_
  rintro f m' n' ⟨rfl, rfl, hT', hC'⟩
  have nd := nodup_head (nodup_perm P hnd)
  exact ⟨rfl, SCs.nil ⟨rfl, n'', fun p hp => P.mem_iff.mpr hp, nd.1, P'.mem_iff.mpr (lay_base _ hax), hT', hC', ts, cs, b, hk, hok, hco, P', nd.2, hl, hne⟩⟩
theorem cl_perm {w : World} {tl cl : Addr} {a b : Nat} {ts : List Th} {cs : List Cd} {base n : Led} {I : Addr} {oI : Obj} (P : n.Perm (layL w tl cl a b ts cs base)) :
    ((I, oI) :: n).Perm ((cl, listOf (refC cs).toArray b) :: (I, oI) :: beyond w tl a ts cs base) := (List.Perm.cons _ (P.trans lay_codes)).trans (List.Perm.swap ..)
theorem Up_swap {c : Cd} {cl : Addr} {o o' : Obj} {rest : Led} (u : c.Up ((cl, o) :: rest)) : c.Up ((cl, o') :: rest) :=
  { u with
    a0 := fun p hp => (List.mem_cons.mp hp).elim (fun e => by subst e; exact u.a0 (cl, o) (.head _)) fun h => u.a0 p (.tail _ h) }
theorem keys_swap {cl : Addr} {o o' : Obj} {rest : Led} (h : (keys ((cl, o) :: rest)).Nodup) : (keys ((cl, o') :: rest)).Nodup := h
theorem turnT (w : World) {vs : List Value} {tl cl : Addr} {a : Nat} {base : Led} {ax : Addr} {lo : Obj} (hax : (ax, lo) ∈ base) (hvs : ∀ (i : Nat) (v : Value), vs[i]? = some v → ∃ X tx, v = Value.int X tx ∧ 0 ≤ X ∧ X < 1048576) (hlen : vs.length ≤ 90)
    {i : Nat} {v : Value} {I : Addr} {oI : Obj} {m : Str → Option Value} {n : Led} (hv : vs[i]? = some v) (hJ : LInv w vs tl cl a base i m n) (ho : ∀ p ∈ n, p.1 ≠ I) :
    SCs w [b0X.1, b1X.1, b2X.1, ifX.1, b4X.1] (fun z => if z = Str.ofString "x" then some v else m z) ((I, oI) :: n) (fun f m' n' => f = .next ∧ ∃ n'', (∀ p ∈ (I, oI) :: n'', p ∈ n') ∧ (∀ p ∈ n'', p.1 ≠ I) ∧ (ax, lo) ∈ n'' ∧ LInv w vs tl cl a base (i + 1) m' n'') := by
  obtain ⟨X, tx, rfl, hX0, hX1⟩ := hvs i v hv
  obtain ⟨hT, hC, ts, cs, b, hk, hok, hco, P, hnd, hl, hne⟩ := hJ
  have hi : i < vs.length := (List.getElem?_eq_some_iff.mp hv).1
  refine SCs.cons (ps0 w (tl := tl) (cl := cl) hX0 hX1 hT hC rfl) ?_
  rintro f m2 n2 ⟨rfl, rfl, hT2, hC2, hX2, t1, t2, t3, hJ2, hD2, hR2⟩
  refine ⟨rfl, ?_⟩
  have h6 : 0 ≤ X.fmod 6 ∧ X.fmod 6 < 6 := by
    rw [Int.fmod_eq_emod_of_nonneg X (by decide)]
    omega
  have h256 : 0 ≤ (X.fdiv 48).fmod 256 ∧ (X.fdiv 48).fmod 256 < 256 := by
    rw [Int.fmod_eq_emod_of_nonneg _ (by decide)]
    omega
  have h8 : 0 ≤ (X.fdiv 6).fmod 8 ∧ (X.fdiv 6).fmod 8 < 8 := by
    rw [Int.fmod_eq_emod_of_nonneg _ (by decide)]
    omega
  have hlt : ts.length = 6 := by rw [← List.length_map (f := Th.k), hk]; rfl
  have hj : (X.fmod 6).toNat < ts.length := by omega
  obtain ⟨t, ht⟩ : ∃ t, ts[(X.fmod 6).toNat]? = some t := ⟨_, List.getElem?_eq_getElem hj⟩
  have htm : t ∈ ts := List.mem_of_getElem? ht
  have up : ∀ p ∈ layL w tl cl a b ts cs base, p ∈ (I, oI) :: n := fun p hp => .tail _ (P.mem_iff.mpr hp)
  refine SCs.cons (ps1 w (r := t.r) hT2 hC2 hX2 hJ2 hD2 hR2 (up _ lay_ts) h6.1 (by omega) (by rw [List.getElem?_map, ht]; rfl)) ?_
  rintro f m3 n3 ⟨rfl, rfl, hT3, hC3, hX3, hD3, hR3, hW3⟩
  refine ⟨rfl, ?_⟩
  refine SCs.cons (ps2 w hT3 hC3 hX3 hD3 hR3 hW3 (up _ (lay_th t htm _ (.head _)))) ?_
  rintro f m4 n4 ⟨rfl, rfl, hT4, hC4, hX4, hD4, hR4, hW4, hK4, hS4⟩
  refine ⟨rfl, ?_⟩
  by_cases h7 : (X.fdiv 6).fmod 8 = 7
  · rw [h7] at hD4
    have Pc := cl_perm (I := I) (oI := oI) P
    have nd := nodup_perm Pc (nodup_more (x := (I, oI)) hnd ho)
    refine SCs.cons ((d7 w (cs := refC cs) h256.1 h256.2 hX0 hX1 hT4 hC4 hD4 hR4 hX4 (nodup_head nd).1 (by rw [List.length_map]; omega)).sub fun p hp => Pc.mem_iff.mpr hp) ?_
    rintro f m5 n5 ⟨rfl, hT5, hC5, c, hc, hu, rfl⟩
    refine ⟨rfl, ?_⟩
    have e : refC cs ++ [Value.ref c.row] = refC (cs ++ [c]) := by rw [refC, refC, List.map_append]; rfl
    rw [e]
    refine turn_end w (n'' := c.led w ++ (cl, listOf (refC (cs ++ [c])).toArray (b + 1)) :: beyond w tl a ts cs base) (ts := ts) (cs := cs ++ [c]) (b := b + 1) hk hok ?_ ?_ ?_ ?_ ?_ ?_ hT5 hC5 hax
    · intro c' h'
      rcases List.mem_append.mp h' with h' | h'
      · exact hco c' h'
      · exact (List.mem_singleton.mp h') ▸ hc
    · refine List.Perm.trans (List.Perm.append_left _ (List.Perm.swap ..)) List.perm_middle
    · exact List.perm_middle.trans lay_more
    · exact (Up_swap hu).nodup (keys_swap nd)
    · rw [List.length_append]; show cs.length + 1 ≤ i + 1; omega
    · intro _ h
      exact absurd h (by simp)
  · obtain ⟨A, B, hAB⟩ := List.append_of_mem htm
    have Pt : ((I, oI) :: n).Perm (t.led w ++ (I, oI) :: besides w tl cl a b (refT ts) A B cs base) := by
      refine (List.Perm.cons _ (P.trans ?_)).trans List.perm_middle.symm
      rw [hAB]
      exact lay_focus
    have nd := nodup_perm Pt (nodup_more (x := (I, oI)) hnd ho)
    refine SCs.cons ((deedT w (t := t) (kinds_lt hk t htm) (hok t htm) h8.1 (by omega) h256.1 h256.2 hT4 hC4 hD4 hR4 hW4 hK4 hS4 (apart_of nd)).sub fun p hp => Pt.mem_iff.mpr hp) ?_
    rintro f m5 n5 ⟨rfl, hT5, hC5, o, d, T, v, u, rfl, hv', ap⟩
    refine ⟨rfl, ?_⟩
    refine turn_end w (n'' := chunk w t.k t.r o d t.tk t.c T v u ++ besides w tl cl a b (refT ts) A B cs base) (ts := A ++ (⟨t.k, t.r, o, d, t.tk, t.c, T, v, u⟩ : Th) :: B) (cs := cs) (b := b) ?_ ?_ hco ?_ ?_ ?_ ?_ ?_ hT5 hC5 hax
    · rw [← hk, hAB]; exact kinds_swap rfl
    · intro t' h'
      rcases List.mem_append.mp h' with h' | h'
      · exact hok t' (hAB ▸ List.mem_append_left _ h')
      · rcases List.mem_cons.mp h' with rfl | h'
        · exact hv'
        · exact hok t' (hAB ▸ List.mem_append_right _ (.tail _ h'))
    · exact List.perm_middle
    · refine List.Perm.trans ?_ lay_focus.symm
      rw [refT_swap (t := t) (t' := ⟨t.k, t.r, o, d, t.tk, t.c, T, v, u⟩) rfl, ← hAB]
    · exact nodup_of (t := ⟨t.k, t.r, o, d, t.tk, t.c, T, v, u⟩) ap (nodup_rest nd)
    · omega
    · rintro ⟨j, X', t', hj', hjv, hX7⟩
      rcases Nat.lt_or_ge j i with h | h
      · exact hne ⟨j, X', t', h, hjv, hX7⟩
      · have : j = i := by omega
        subst this
        rw [hv] at hjv
        obtain ⟨rfl, _⟩ := Value.int.inj (Option.some.inj hjv)
        exact absurd hX7 h7
def forX : (p : Stmt) ×' nth 3 lawX.1.1 = some p := ⟨_, rfl⟩
/-- the law's loop -/
theorem loopT (w : World) {vs : List Value} {tl cl : Addr} {a b nx : Nat} {base n : Led} {ax : Addr} {ts : List Th} {m : Str → Option Value} (hax : (ax, listOf vs.toArray nx) ∈ base) (hvs : ∀ (i : Nat) (v : Value), vs[i]? = some v → ∃ X tx, v = Value.int X tx ∧ 0 ≤ X ∧ X < 1048576) (hlen : vs.length ≤ 90)
    (hT : m (Str.ofString "things") = some (.ref tl)) (hC : m (Str.ofString "codes") = some (.ref cl)) (hN : m (Str.ofString "nums") = some (.ref ax)) (hk : ts.map (·.k) = [0, 0, 1, 1, 2, 2]) (hok : ∀ t ∈ ts, Ok t.k t.v)
    (P : n.Perm (layL w tl cl a b ts [] base)) (hnd : (keys n).Nodup) :
    SCon w forX.1 m n (fun f m' n' => f = .next ∧ m' (Str.ofString "codes") = some (.ref cl) ∧ ∃ (cs : List Cd) (b : Nat), (∀ c ∈ cs, c.ok) ∧ cs.length ≤ 90 ∧ ((∃ (j : Nat) (X : Int) (t : Tok), vs[j]? = some (Value.int X t) ∧ (X.fdiv 6).fmod 8 = 7) → cs ≠ []) ∧ (cl, listOf (refC cs).toArray b) ∈ n' ∧ ∀ c ∈ cs, ∀ p ∈ c.led w, p ∈ n') := by
  have hax' : (ax, listOf vs.toArray nx) ∈ n := P.mem_iff.mpr (lay_base _ hax)
  refine SCon.imp (for_name (x := Str.ofString "x") (y := Str.ofString "nums") (vs := vs) (J := LInv w vs tl cl a base) hN (fun _ _ _ => rfl) (fun _ _ _ => rfl) (by decide) hax' rfl rfl ⟨hT, hC, ts, [], b, hk, hok, (fun _ h => nomatch h), P, hnd, Nat.le_refl _, ?_⟩ ?_) ?_
  · rintro ⟨j, _, _, h, _⟩
    exact absurd h (Nat.not_lt_zero j)
  · intro i v I oI m₁ n₁ hv hJ ho hm'
    exact turnT w hax hvs hlen hv hJ ho
  · rintro f m' n' ⟨rfl, _, hT', hC', ts', cs, b', hk', hok', hco, P', hnd', hl, hne⟩
    refine ⟨rfl, hC', cs, b', hco, by omega, ?_, P'.mem_iff.mpr (.tail _ (.head _)), fun c hc p hp => P'.mem_iff.mpr (lay_cd c hc p hp)⟩
    rintro ⟨j, X, t, hjv, h7⟩
    exact hne ⟨j, X, t, (List.getElem?_eq_some_iff.mp hjv).1, hjv, h7⟩
end Mine
-- part FL
namespace Mine
local macro_rules | `(tactic| k_room) => `(tactic| ktr_room)
local macro_rules | `(tactic| k_all) => `(tactic| assumption)
local macro_rules | `(tactic| k_mem) => `(tactic| assumption)
local macro_rules | `(tactic| walk_at "compareOp Eq str str") => `(tactic| with_reducible refine eq_txt ?_)
local macro_rules | `(tactic| walk_at "call ref") => `(tactic| (k_here; (with_reducible show wpAny _ _ (call (Value.ref 334) [Value.int 0 _, Value.ref _, Value.int _ _]) _ _ _); k_dflt (refine' Con.use (same0 _ ?c1 ?c2 ?c3) ?kB ?kF ?kX ?kN ?kT ?kK ?kd ?ku ?_; (case kB => k_asm); (case kF => k_asm); (case kX => k_asm); (case kN => k_asm); (case kT => k_asm); (case kK => exact rfl); (case c2 => k_mem); (case c3 => k_mem); (case c1 => assumption); (case kd => ktr_room); (case ku => ktr_units); k_whole); intro v9 n9 h9 tk9 e9 F9 N9; obtain ⟨e9, e8⟩ := e9; subst e9; subst e8; (try k_sweep); (try dsimp only)))
local macro_rules | `(tactic| walk_at "call ref") => `(tactic| (k_here; (with_reducible show wpAny _ _ (call (Value.ref 334) [Value.int 1 _, Value.ref _, Value.int _ _]) _ _ _); k_dflt (refine' Con.use (same1 _ ?c1 ?c2 ?c3) ?kB ?kF ?kX ?kN ?kT ?kK ?kd ?ku ?_; (case kB => k_asm); (case kF => k_asm); (case kX => k_asm); (case kN => k_asm); (case kT => k_asm); (case kK => exact rfl); (case c2 => k_mem); (case c3 => k_mem); (case c1 => assumption); (case kd => ktr_room); (case ku => ktr_units); k_whole); intro v9 n9 h9 tk9 e9 F9 N9; obtain ⟨e9, e8⟩ := e9; subst e9; subst e8; (try k_sweep); (try dsimp only)))
local macro_rules | `(tactic| walk_at "call ref") => `(tactic| (k_here; (with_reducible show wpAny _ _ (call (Value.ref 334) [Value.int 2 _, Value.ref _, Value.int _ _]) _ _ _); k_dflt (refine' Con.use (same2 _ ?c1 ?c2 ?c3) ?kB ?kF ?kX ?kN ?kT ?kK ?kd ?ku ?_; (case kB => k_asm); (case kF => k_asm); (case kX => k_asm); (case kN => k_asm); (case kT => k_asm); (case kK => exact rfl); (case c2 => k_mem); (case c3 => k_mem); (case c1 => assumption); (case kd => ktr_room); (case ku => ktr_units); k_whole); intro v9 n9 h9 tk9 e9 F9 N9; obtain ⟨e9, e8⟩ := e9; subst e9; subst e8; (try k_sweep); (try dsimp only)))
local macro_rules | `(tactic| walk_at "call ref") => `(tactic| (k_here; (with_reducible show wpAny _ _ (call (Value.ref 294) _) _ _ _); k_dflt (refine' Con.use (idiso _ ?c0 ?c1 ?c2 ?c3) ?kB ?kF ?kX ?kN ?kT ?kK ?kd ?ku ?_; (case kB => k_asm); (case kF => k_asm); (case kX => k_asm); (case kN => k_asm); (case kT => k_asm); (case kK => exact rfl); (case c2 => k_mem); (case c3 => k_mem); (case c0 => assumption); (case c1 => assumption); (case kd => ktr_room); (case ku => ktr_units); k_whole); intro v9 n9 h9 tk9 e9 F9 N9; obtain ⟨⟨t9, e9⟩, e8⟩ := e9; subst e9; subst e8; (try k_sweep); (try dsimp only)))
local macro_rules | `(tactic| walk_at "call ref") => `(tactic| (k_here; (with_reducible show wpAny _ _ (call (Value.ref 367) _) _ _ _); k_dflt (refine' Con.use (iso _ ?c0 ?c1) ?kB ?kF ?kX ?kN ?kT ?kK ?kd ?ku ?_; (case kB => k_asm); (case kF => k_asm); (case kX => k_asm); (case kN => k_asm); (case kT => k_asm); (case kK => exact rfl); (case c0 => assumption); (case c1 => assumption); (case kd => ktr_room); (case ku => ktr_units); k_whole); intro v9 n9 h9 tk9 e9 F9 N9; obtain ⟨⟨t9, e9⟩, e8⟩ := e9; subst e9; subst e8; (try k_sweep); (try dsimp only)))
local macro_rules | `(tactic| walk_at "call ref") => `(tactic| (k_here; (with_reducible show wpAny _ _ (call (Value.ref 320) [Value.int _ _, Value.int 1 _]) _ _ _); k_dflt (refine' Con.use (keep1 _ ?c0 ?c1) ?kB ?kF ?kX ?kN ?kT ?kK ?kd ?ku ?_; (case kB => k_asm); (case kF => k_asm); (case kX => k_asm); (case kN => k_asm); (case kT => k_asm); (case kK => exact rfl); (case c0 => assumption); (case c1 => assumption); (case kd => ktr_room); (case ku => ktr_units); k_whole); intro v9 n9 h9 tk9 e9 F9 N9; obtain ⟨⟨t9, e9⟩, e8⟩ := e9; subst e9; subst e8; (try k_sweep); (try dsimp only)))
local macro_rules | `(tactic| walk_at "call ref") => `(tactic| (k_here; (with_reducible show wpAny _ _ (call (Value.ref 320) [Value.int _ _, Value.int 2 _]) _ _ _); k_dflt (refine' Con.use (keep2 _ ?c0 ?c1) ?kB ?kF ?kX ?kN ?kT ?kK ?kd ?ku ?_; (case kB => k_asm); (case kF => k_asm); (case kX => k_asm); (case kN => k_asm); (case kT => k_asm); (case kK => exact rfl); (case c0 => assumption); (case c1 => assumption); (case kd => ktr_room); (case ku => ktr_units); k_whole); intro v9 n9 h9 tk9 e9 F9 N9; obtain ⟨⟨t9, e9⟩, e8⟩ := e9; subst e9; subst e8; (try k_sweep); (try dsimp only)))
theorem txt_app {x y : Str} (hx : PyData.strOk x = true) (hy : PyData.strOk y = true) : PyData.strOk (x ++ y) = true := by
  show (x.cps ++ y.cps).all _ = true
  rw [Array.all_append]
  exact Bool.and_eq_true_iff.mpr ⟨hx, hy⟩
theorem txt_item {x : Str} (i : Int) (hx : PyData.strOk x = true) : PyData.strOk (Txt.item x i) = true := by
  have h : (Txt.charAt x i).getD 0 < 0x110000 := by
    cases e : Txt.charAt x i with
    | none => decide
    | some c =>
      show c < 0x110000
      unfold Txt.charAt at e
      obtain ⟨k, _, hk⟩ := Option.bind_eq_some_iff.mp e
      have hc : c ∈ x.cps := Array.mem_of_getElem? hk
      have := Array.all_eq_true_iff_forall_mem.mp hx c hc
      exact of_decide_eq_true this
  show (#[(Txt.charAt x i).getD 0]).all _ = true
  simp [h]
theorem iso_ok (n : Int) : PyData.strOk (isoTxt n) = true := by
  have h : ∀ i, PyData.strOk (hexT i) = true := fun i => txt_item i (by decide +kernel)
  have a : PyData.strOk (isoA n) = true := txt_app (txt_item _ (by decide +kernel)) (txt_item _ (by decide +kernel))
  exact txt_app (txt_app (txt_app (txt_app (txt_app (txt_app a (h _)) (h _)) (h _)) (by decide +kernel)) (h _)) (h _)
theorem ne_code {prog : Program} {w : World} {A : Around} {E : Value → Shared → Prop} {s : Shared} {h₀ : Heap} {L a b sn sn' ed ed' : Addr} {news : Led} {n : Int} {x : Str} {t1 t2 t3 t4 t5 t6 : Tok} {k1 k2 k3 k4 k5 k6 : Nat} {Q : Value → Shared → Prop}
    (N : News h₀ L s.heap news) (ha : (a, listOf #[.int n t1, .str x t2, .ref sn, .ref ed] k1) ∈ news) (hb : (b, listOf #[.int n t3, .str x t4, .ref sn', .ref ed'] k2) ∈ news)
    (hs : (sn, listOf #[.int n t5] k3) ∈ news) (hs' : (sn', listOf #[.int n t6] k4) ∈ news) (he : (ed, listOf #[] k5) ∈ news) (he' : (ed', listOf #[] k6) ∈ news) (hx : PyData.strOk x = true) (hu : A.units + 64 < cLine)
    (h : Q (.bool false) s) : wpAny (model prog w) A (compareOp .NotEq (.ref a) (.ref b)) Q E s := by
  have rn : ∀ {l : Addr} {t : Tok} {k : Nat}, (l, listOf #[Value.int n t] k) ∈ news → Reads s.heap (.ref l) (.list [.int n]) [l] := fun m => reads_list_at (N.get m) rfl rfl (ReadsAll.cons (Reads.int _ _) ReadsAll.nil)
  have re : ∀ {l : Addr} {k : Nat}, (l, listOf #[] k) ∈ news → Reads s.heap (.ref l) (.list []) [l] := fun m => reads_list_at (N.get m) rfl rfl ReadsAll.nil
  have ra := reads_list_at (N.get ha) rfl rfl (ReadsAll.cons (Reads.int n t1) (ReadsAll.cons (Reads.str x t2) (ReadsAll.cons (rn hs) (ReadsAll.cons (re he) ReadsAll.nil))))
  have rb := reads_list_at (N.get hb) rfl rfl (ReadsAll.cons (Reads.int n t3) (ReadsAll.cons (Reads.str x t4) (ReadsAll.cons (rn hs') (ReadsAll.cons (re he') ReadsAll.nil))))
  have sh : SeqAt.shaped (.list [.int n, .str x, .list [.int n], .list []]) = true := by
    simp [SeqAt.shaped, PyData.canLay0, PyData.canLayAll0, PyData.depth, PyData.depthAll, hx]
  refine ne_dataH ra rb sh sh hu ?_
  have e : PyData.eqv (.list [.int n, .str x, .list [.int n], .list []]) (.list [.int n, .str x, .list [.int n], .list []]) = true := by
    simp [PyData.eqv, PyData.eqvAll]
  rw [e]
  exact h
theorem news_drop4 {h₀ h : Heap} {L : Addr} {x1 x2 x3 x4 : Addr × Obj} {n : Led} (N : News h₀ L h (x1 :: x2 :: x3 :: x4 :: n)) : News h₀ L h n := fun p hp => N p (.tail _ (.tail _ (.tail _ (.tail _ hp))))
def lastX : (p : Stmt) ×' nth 4 lawX.1.1 = some p := ⟨_, rfl⟩
def tgtOf : Stmt → Option PySem.Expr
  | .For t _ _ _ _ => some t
  | _ => none
def tgtX : (p : PySem.Expr) ×' tgtOf lastX.1 = some p := ⟨_, rfl⟩
def bodX : (p : List Stmt) ×' forOf lastX.1 = some p := ⟨_, rfl⟩
theorem ctn (w : World) {n v : Int} {tn tv : Tok} {news : Led} {row x dx st std sn ed sv svd dc dcd : Addr} {c0 c1 c2 : Nat} {T T0 T1 T2 : Nat → Tok} (h0 : 0 ≤ n) (h1 : n < 16777216) (v0 : 0 ≤ v) (v1 : v < 256)
    (hrow : (row, listOf #[.ref x, .int n tn, .int v tv] c0) ∈ news) (hx : (x, instObj 297 dx) ∈ news) (hdx : (dx, DD w T n tn st sn ed sv dc) ∈ news) (hst : (st, instObj 126 std) ∈ news) (hstd : (std, D0 w T0 v) ∈ news) (hsn : (sn, listOf #[.int n tn] c1) ∈ news) (hed : (ed, listOf #[] c2) ∈ news)
    (hsv : (sv, instObj 187 svd) ∈ news) (hsvd : (svd, D1 w T1 (v - v % 32)) ∈ news) (hdc : (dc, instObj 276 dcd) ∈ news) (hdcd : (dcd, D2 w T2 (v % 32)) ∈ news)
    {m : Str → Option Value} {cl : Addr} (hC : m (Str.ofString "codes") = some (.ref cl))
    {p : Program} {loose : List Str} {mean : ExcName → Option Value} {mg mb : Str → Option Value} {dp un : Nat} {gd : Option (List Code)} {a : Addr} {ccd : Value} {A₀ : Around} {h₀ : Heap} {L : Addr} {s : Shared} {Q : Flow → Shared → Prop} {E : Value → Shared → Prop}
    (B : Below A₀ h₀ [] h₀) (F : Fr h₀ L s.heap m) (X₀ : (hd.heap_39 w.params).In h₀) (N : News h₀ L s.heap news) (TT : Top p loose mean mg mb h₀) (hd : dp + 40 < recursionLimit) (hu : un + 400 < cLine)
    (hret : ∀ m' h' tk', m' (Str.ofString "codes") = some (.ref cl) → Fr h₀ L h' m' → News h₀ L h' news → Q .next { s with heap := h', toks := tk' }) :
    wpAny (model P0 w) (ktrTop dp un gd (Str.ofString "law") scX.1 L a ccd [] []) (assign tgtX.1 (envOf (Str.ofString "law") scX.1 L a ccd) (.ref row)) (fun _ s₂ => wpAny (model P0 w) (ktrTop dp un gd (Str.ofString "law") scX.1 L a ccd [] []) (execs bodX.1 (envOf (Str.ofString "law") scX.1 L a ccd)) Q E s₂) E s := by
  have k0 : Ok 0 v := okk0 v0 v1
  have k1 : Ok 1 (v - v % 32) := okk1 v0 v1
  have k2 : Ok 2 (v % 32) := okk2 v0 v1
  rw [ov hC] at F
  dsimp only [tgtX, bodX, lastX, scX, lawX]
  iterate 60 walk1
  (with_reducible rename News _ _ _ _ => N9)
  refine ne_code (n := n) (x := isoTxt n) N9 (.tail _ (.tail _ (.tail _ (.head _)))) (.head _) (.tail _ (.tail _ (.tail _ (.tail _ hsn)))) (.tail _ (.tail _ (.head _))) (.tail _ (.tail _ (.tail _ (.tail _ hed)))) (.tail _ (.head _)) (iso_ok n) ?u ?_
  case u => ktr_units
  replace N9 := news_drop4 N9
  k_steps
  (with_reducible rename News _ _ _ _ => N8)
  (with_reducible rename Fr _ _ _ _ => F9)
  exact hret _ _ _ rfl F9 N8
end Mine
-- part EN
namespace Mine
theorem lastT (w : World) {m : Str → Option Value} {n : Led} {cl : Addr} {cs : List Cd} {b : Nat} (hC : m (Str.ofString "codes") = some (.ref cl)) (hm : (cl, listOf (refC cs).toArray b) ∈ n) (hms : ∀ c ∈ cs, ∀ p ∈ c.led w, p ∈ n) (hok : ∀ c ∈ cs, c.ok) :
    SCon w lastX.1 m n (fun f m' n' => f = .next ∧ m' (Str.ofString "codes") = some (.ref cl) ∧ n' = n) := by
  refine SCon.imp (for_list (y := Str.ofString "codes") (vs := refC cs) (J := fun _ m' n' => m' (Str.ofString "codes") = some (.ref cl) ∧ n' = n) hC (fun _ _ _ => rfl) (by decide) hm rfl rfl ⟨hC, rfl⟩ ?_) ?_
  · rintro i v I oI m₁ n₁ hv ⟨hC₁, rfl⟩ ho hm' p loose mean mg mb dp un gd a ccd A₀ h₀ L s Q B F X₀ N TT hd hu hret
    rw [List.getElem?_map, Option.map_eq_some_iff] at hv
    obtain ⟨c, hc, rfl⟩ := hv
    have hmem := List.mem_of_getElem? hc
    have up : ∀ p ∈ c.led w, p ∈ (I, oI) :: n₁ := fun p hp => .tail _ (hms c hmem p hp)
    have ok := hok c hmem
    exact ctn w ok.1.1 ok.1.2 ok.2.1 ok.2.2 (up _ (.head _)) (up _ (.tail _ (.tail _ (.tail _ (.tail _ (.tail _ (.tail _ (.tail _ (.tail _ (.tail _ (.head _))))))))))) (up _ (.tail _ (.tail _ (.tail _ (.tail _ (.tail _ (.tail _ (.tail _ (.tail _ (.tail _ (.tail _ (.head _))))))))))))
      (up _ (.tail _ (.tail _ (.tail _ (.tail _ (.tail _ (.tail _ (.tail _ (.head _))))))))) (up _ (.tail _ (.tail _ (.tail _ (.tail _ (.tail _ (.tail _ (.tail _ (.tail _ (.head _)))))))))) (up _ (.tail _ (.tail _ (.tail _ (.tail _ (.tail _ (.tail _ (.head _)))))))) (up _ (.tail _ (.tail _ (.tail _ (.tail _ (.tail _ (.head _)))))))
      (up _ (.tail _ (.tail _ (.tail _ (.head _))))) (up _ (.tail _ (.tail _ (.tail _ (.tail _ (.head _)))))) (up _ (.tail _ (.head _))) (up _ (.tail _ (.tail _ (.head _))))
      hC₁ B F X₀ N TT hd hu fun m' h' tk' hC' F' N' => hret m' n₁ h' tk' ho hm' ⟨hC', rfl⟩ F' N'
  · rintro f m' n' ⟨rfl, _, hC', rfl⟩
    exact ⟨rfl, hC', rfl⟩
def formX : (p : Stmt) ×' nth 5 lawX.1.1 = some p := ⟨_, rfl⟩
def grpX : (p : Stmt) ×' nth 6 lawX.1.1 = some p := ⟨_, rfl⟩
def retX : (p : Stmt) ×' nth 7 lawX.1.1 = some p := ⟨_, rfl⟩
theorem formT (w : World) {m : Str → Option Value} {n : Led} {cl : Addr} (hC : m (Str.ofString "codes") = some (.ref cl)) :
    SCon w formX.1 m n (fun f m' n' => f = .next ∧ m' (Str.ofString "codes") = some (.ref cl) ∧ ∃ l t0 t1 t2 t3 t4 t5 k, m' (Str.ofString "formats") = some (.ref l) ∧ n' = (l, listOf #[.int 0 t0, .int 0 t1, .int 1 t2, .int 2 t3, .int 3 t4, .int 4 t5] k) :: n) := by
  intro p loose mean mg mb dp un gd a ccd A₀ h₀ L s Q E B F X₀ N TT hd hu hret
  rw [ov hC] at F
  dsimp only [formX, scX, lawX]
  k_steps
  (with_reducible rename News _ _ _ _ => N9)
  (with_reducible rename Fr _ _ _ _ => F9)
  refine hret _ _ ?nn _ _ ?R F9 ?NN
  case NN => exact N9
  case R => exact ⟨rfl, rfl, _, _, _, _, _, _, _, _, rfl, rfl⟩
theorem grpT (w : World) {m : Str → Option Value} {n : Led} {cl fl : Addr} (hC : m (Str.ofString "codes") = some (.ref cl)) (hF : m (Str.ofString "formats") = some (.ref fl)) :
    SCon w grpX.1 m n (fun f m' n' => f = .next ∧ m' (Str.ofString "codes") = some (.ref cl) ∧ m' (Str.ofString "formats") = some (.ref fl) ∧ ∃ l t0 t1 t2 k, m' (Str.ofString "groups") = some (.ref l) ∧ n' = (l, listOf #[.int 51 t0, .int 208 t1, .int 254 t2] k) :: n) := by
  intro p loose mean mg mb dp un gd a ccd A₀ h₀ L s Q E B F X₀ N TT hd hu hret
  rw [ov hC, ov hF] at F
  dsimp only [grpX, scX, lawX]
  k_steps
  (with_reducible rename News _ _ _ _ => N9)
  (with_reducible rename Fr _ _ _ _ => F9)
  refine hret _ _ ?nn _ _ ?R F9 ?NN
  case NN => exact N9
  case R => exact ⟨rfl, rfl, rfl, _, _, _, _, _, rfl, rfl⟩
theorem eq_lit {prog : Program} {w : World} {A : Around} {E : Value → Shared → Prop} {s : Shared} {a b : Str} {t u : Tok} {Q : Value → Shared → Prop} (e : a = b) (h : Q (.bool true) s) : wpAny (model prog w) A (compareOp .Eq (.str a t) (.str b u)) Q E s := by
  subst e
  exact eq_txt h
theorem iso1 : isoTxt 1193046 = Str.ofString "P1234-56" := by decide +kernel
theorem iso2 : isoTxt 16777215 = Str.ofString "U3FFF-FF" := by decide +kernel
local macro_rules | `(tactic| walk_at "compareOp Eq str str") => `(tactic| first | with_reducible refine eq_lit iso1 ?_ | with_reducible refine eq_lit iso2 ?_)
local macro_rules | `(tactic| walk_at "call ref") => `(tactic| (k_here; (with_reducible show wpAny _ _ (call (Value.ref 297) [Value.int _ _]) _ _ _); k_dflt (refine' Con.use (mkd _) ?kB ?kF ?kX ?kN ?kT ?kK ?kd ?ku ?_; (case kB => k_asm); (case kF => k_asm); (case kX => k_asm); (case kN => k_asm); (case kT => k_asm); (case kK => exact rfl);  (case kd => ktr_room); (case ku => ktr_units); k_whole); intro v9 n9 h9 tk9 e9 F9 N9; obtain ⟨x9, dx9, st9, std9, sn9, ed9, sv9, svd9, dc9, dcd9, c19, c29, T9, T09, T19, T29, e9, e8, l0, l1, l2, l3, l4, l5, l6, l7, l8, l9⟩ := e9; subst e9; subst e8; clear l0 l1 l2 l3 l4 l5 l6 l7 l8 l9; (try k_sweep); (try dsimp only)))
local macro_rules | `(tactic| walk_at "call ref") => `(tactic| (k_here; (with_reducible show wpAny _ _ (call (Value.ref 294) _) _ _ _); k_dflt (refine' Con.use (idiso _ ?c0 ?c1 ?c2 ?c3) ?kB ?kF ?kX ?kN ?kT ?kK ?kd ?ku ?_; (case kB => k_asm); (case kF => k_asm); (case kX => k_asm); (case kN => k_asm); (case kT => k_asm); (case kK => exact rfl); (case c2 => k_mem); (case c3 => k_mem); (case c0 => decide); (case c1 => decide); (case kd => ktr_room); (case ku => ktr_units); k_whole); intro v9 n9 h9 tk9 e9 F9 N9; obtain ⟨⟨t9, e9⟩, e8⟩ := e9; subst e9; subst e8; (try k_sweep); (try dsimp only)))
def intsOf : List Value → List Int
  | .int n _ :: r => n :: intsOf r
  | _ :: r => intsOf r
  | [] => []
theorem eq_ints {prog : Program} {w : World} {A : Around} {E : Value → Shared → Prop} {s : Shared} {h₀ : Heap} {L a b : Addr} {news : Led} {xs ys : List Value} {k1 k2 : Nat} {Q : Value → Shared → Prop} (N : News h₀ L s.heap news) (ha : (a, listOf xs.toArray k1) ∈ news) (hb : (b, listOf ys.toArray k2) ∈ news)
    (hi : IntsAre xs (intsOf xs)) (hj : IntsAre ys (intsOf xs)) (hu : A.units + 64 < cLine) (h : Q (.bool true) s) : wpAny (model prog w) A (compareOp .Eq (.ref a) (.ref b)) Q E s :=
  ke_eq_ints (News.isList N ha) (News.isList N hb) hi hj hu (by rw [decide_eq_true rfl]; exact h)
local macro_rules | `(tactic| walk_at "compareOp Eq ref ref") => `(tactic| (k_here; (refine eq_ints (by k_asm) (by ((repeat (with_reducible refine List.mem_cons_of_mem _ ?_)); assumption)) (by with_reducible exact List.mem_cons_self) (by (repeat (first | exact IntsAre.nil | refine IntsAre.cons _ _ ?_))) (by (repeat (first | exact IntsAre.nil | refine IntsAre.cons _ _ ?_))) (by ktr_units) ?_)))
theorem len_codes {prog : Program} {w : World} {A : Around} {E : Value → Shared → Prop} {s : Shared} {h₀ : Heap} {L a : Addr} {news : Led} {cs : List Cd} {k1 : Nat} {Q : Value → Shared → Prop} (N : News h₀ L s.heap news) (ha : (a, listOf (refC cs).toArray k1) ∈ news) (hlen : cs.length ≤ 90)
    (h : Q (.int (cs.length : Int) (s.toks + 1)) { s with toks := s.toks + 1 + 1 }) : wpAny (model prog w) A (call (.builtin "len") [.ref a]) Q E s := by
  have e : (refC cs).toArray.size = cs.length := by rw [List.size_toArray, List.length_map]
  exact len_list (News.isList N ha) (by rw [e]; omega) (by rw [e]; exact h)
local macro_rules | `(tactic| walk_at "call builtin:len") => `(tactic| (k_here; (with_reducible show wpAny _ _ (call (Value.builtin "len") [Value.ref _]) _ _ _); (refine len_codes (by k_asm) (by ((repeat (with_reducible refine List.mem_cons_of_mem _ ?_)); assumption)) (by assumption) ?_)))
theorem retT (w : World) {m : Str → Option Value} {n : Led} {cl fl gl : Addr} {cs : List Cd} {b k k' : Nat} {t0 t1 t2 t3 t4 t5 u0 u1 u2 : Tok} (hC : m (Str.ofString "codes") = some (.ref cl)) (hF : m (Str.ofString "formats") = some (.ref fl)) (hG : m (Str.ofString "groups") = some (.ref gl))
    (hcl : (cl, listOf (refC cs).toArray b) ∈ n) (hfl : (fl, listOf #[.int 0 t0, .int 0 t1, .int 1 t2, .int 2 t3, .int 3 t4, .int 4 t5] k) ∈ n) (hgl : (gl, listOf #[.int 51 u0, .int 208 u1, .int 254 u2] k') ∈ n) (hne : cs ≠ []) (hlen : cs.length ≤ 90) :
    SCon w retX.1 m n (fun f _ _ => f = .ret (.bool true)) := by
  intro p loose mean mg mb dp un gd a ccd A₀ h₀ L s Q E B F X₀ N TT hd hu hret
  rw [ov hC, ov hF, ov hG] at F
  dsimp only [retX, scX, lawX]
  k_steps
  (with_reducible rename News _ _ _ _ => N9)
  (with_reducible rename Fr _ _ _ _ => F9)
  have hge : decide ((1 : Int) ≤ (cs.length : Int)) = true := by
    have := List.length_pos_iff.mpr hne
    exact decide_eq_true (by omega)
  rw [hge]
  refine hret _ _ _ _ _ ?R F9 N9
  exact rfl
theorem SCs.one {w : World} {st : Stmt} {m : Str → Option Value} {news : Led} {R : Flow → (Str → Option Value) → Led → Prop} (h : SCon w st m news R) : SCs w [st] m news R := by
  intro p loose mean mg mb dp un gd a ccd A₀ h₀ L s Q E B F X₀ N TT hd hu hret
  refine wpAny_execs_cons (h p loose mean mg mb dp un gd a ccd A₀ h₀ L s _ E B F X₀ N TT hd hu ?_)
  intro f m' n' h' tk' r F' N'
  have q := hret f m' n' h' tk' r F' N'
  cases f with
  | next => exact wpAny_execs_nil q
  | ret v => exact q
  | brk => exact q
  | cont => exact q
/-- the law's end: behind the loop -/
theorem endT (w : World) {m : Str → Option Value} {n : Led} {cl : Addr} {cs : List Cd} {b : Nat} (hC : m (Str.ofString "codes") = some (.ref cl)) (hm : (cl, listOf (refC cs).toArray b) ∈ n) (hms : ∀ c ∈ cs, ∀ p ∈ c.led w, p ∈ n) (hok : ∀ c ∈ cs, c.ok) (hne : cs ≠ []) (hlen : cs.length ≤ 90) :
    SCs w [lastX.1, formX.1, grpX.1, retX.1] m n (fun f _ _ => f = .ret (.bool true)) := by
  refine SCs.cons (lastT w hC hm hms hok) ?_
  rintro f m1 n1 ⟨rfl, hC1, rfl⟩
  refine ⟨rfl, SCs.cons (formT w hC1) ?_⟩
  rintro f m2 n2 ⟨rfl, hC2, fl, t0, t1, t2, t3, t4, t5, k, hF2, rfl⟩
  refine ⟨rfl, SCs.cons (grpT w hC2 hF2) ?_⟩
  rintro f m3 n3 ⟨rfl, hC3, hF3, gl, u0, u1, u2, k', hG3, rfl⟩
  exact ⟨rfl, SCs.one (retT w hC3 hF3 hG3 (.tail _ (.tail _ hm)) (.tail _ (.head _)) (.head _) hne hlen)⟩
end Mine
-- part TH
namespace Mine
local macro_rules | `(tactic| k_room) => `(tactic| ktr_room)
def thX : (p : Stmt) ×' nth 1 lawX.1.1 = some p := ⟨_, rfl⟩
section
variable {prog : Program} {w : World} {A : Around} {s : Shared} {h₀ : Heap} {L : Addr} {m : Str → Option Value} {env : Env}
theorem comp_ind {elt : PySem.Expr} {x : Str} {scope : Scope} {cl : List (Str × Addr)} {S : Led → Prop} {P : Nat → Value → Prop} {Fin : List Value → Led → Prop} {n : Nat} (J : Nat → List Value → Led → Prop)
    (turn : ∀ i ys news, i < n → J i ys news → ∀ v I oI C oC D m₂ h tk (E' : Value → Shared → Prop), P i v → LCg.NsObj oC m₂ → m₂ x = some v → Fr h₀ L h m → News h₀ L h ((I, oI) :: (C, oC) :: (D, LCg.lst ys) :: news) → LCg.Off3 I C D news → ((@Ne Nat I C) ∧ (@Ne Nat I D) ∧ (@Ne Nat C D)) →
      wpAny (model prog w) A (eval elt (compEnvC scope cl C env)) (LCg.CompEnd h₀ L m { s with heap := h, toks := tk } I oI C oC D (LCg.lst ys) S (fun y news' => J (i + 1) (ys ++ [y]) news')) E' { s with heap := h, toks := tk })
    (fin : ∀ ys news, J n ys news → Fin ys news) : ∀ k i ys news, i + k = n → J i ys news → LCg.CompRest prog w A h₀ L m env elt x scope cl s S P Fin k i ys news
  | 0, i, ys, news, e, j => fin ys news (by rw [← e]; exact j)
  | k + 1, i, ys, news, e, j => fun v I oI C oC D m₂ h tk E' hP hC hx F N off ne => by
    refine wpAny_mono (turn i ys news (by omega) j v I oI C oC D m₂ h tk E' hP hC hx F N off ne) (fun y s₂ q => ?_) fun _ _ e => e
    obtain ⟨h', tk', news', e', F', N', off', hS, j'⟩ := q
    exact ⟨h', tk', news', e', F', N', off', hS, comp_ind J turn fin k (i + 1) (ys ++ [y]) news' (by omega) j'⟩
end
local macro_rules | `(tactic| walk_at "call ref") => `(tactic| (k_here; (with_reducible show wpAny _ _ (call (Value.ref 346) [Value.int 0 _, Value.int _ _]) _ _ _); k_dflt (refine' Con.use (bu0 _ ?c0 ?c1) ?kB ?kF ?kX ?kN ?kT ?kK ?kd ?ku ?_; (case kB => k_asm); (case kF => k_asm); (case kX => k_asm); (case kN => k_asm); (case kT => k_asm); (case kK => exact rfl); (case c0 => first | assumption | decide); (case c1 => first | assumption | decide); (case kd => ktr_room); (case ku => ktr_units); k_whole); intro v9 n9 h9 tk9 e9 F9 N9; obtain ⟨x9, d9, T9, e9, e8, l1, l2⟩ := e9; subst e9; subst e8; (try k_lt l1); (try k_lt2 l2); (try k_sweep); (try dsimp only)))
local macro_rules | `(tactic| walk_at "call ref") => `(tactic| (k_here; (with_reducible show wpAny _ _ (call (Value.ref 346) [Value.int 1 _, Value.int _ _]) _ _ _); k_dflt (refine' Con.use (bu1 _ ?c0 ?c1) ?kB ?kF ?kX ?kN ?kT ?kK ?kd ?ku ?_; (case kB => k_asm); (case kF => k_asm); (case kX => k_asm); (case kN => k_asm); (case kT => k_asm); (case kK => exact rfl); (case c0 => first | assumption | decide); (case c1 => first | assumption | decide); (case kd => ktr_room); (case ku => ktr_units); k_whole); intro v9 n9 h9 tk9 e9 F9 N9; obtain ⟨x9, d9, T9, e9, e8, l1, l2⟩ := e9; subst e9; subst e8; (try k_lt l1); (try k_lt2 l2); (try k_sweep); (try dsimp only)))
local macro_rules | `(tactic| walk_at "call ref") => `(tactic| (k_here; (with_reducible show wpAny _ _ (call (Value.ref 346) [Value.int 2 _, Value.int _ _]) _ _ _); k_dflt (refine' Con.use (bu2 _ ?c0 ?c1) ?kB ?kF ?kX ?kN ?kT ?kK ?kd ?ku ?_; (case kB => k_asm); (case kF => k_asm); (case kX => k_asm); (case kN => k_asm); (case kT => k_asm); (case kK => exact rfl); (case c0 => first | assumption | decide); (case c1 => first | assumption | decide); (case kd => ktr_room); (case ku => ktr_units); k_whole); intro v9 n9 h9 tk9 e9 F9 N9; obtain ⟨x9, d9, T9, e9, e8, l1, l2⟩ := e9; subst e9; subst e8; (try k_lt l1); (try k_lt2 l2); (try k_sweep); (try dsimp only)))
theorem fd0 : ((0:Int) + ((0:Nat):Int)).fdiv 2 = 0 := rfl
theorem fd1 : ((0:Int) + ((1:Nat):Int)).fdiv 2 = 0 := rfl
theorem fd2 : ((0:Int) + ((2:Nat):Int)).fdiv 2 = 1 := rfl
theorem fd3 : ((0:Int) + ((3:Nat):Int)).fdiv 2 = 1 := rfl
theorem fd4 : ((0:Int) + ((4:Nat):Int)).fdiv 2 = 2 := rfl
theorem fd5 : ((0:Int) + ((5:Nat):Int)).fdiv 2 = 2 := rfl
local macro_rules | `(tactic| walk_at "call ref") => `(tactic| (simp only [Nat.reduceAdd, fd0, fd1, fd2, fd3, fd4, fd5]))
theorem off1_mem {D : Addr} : ∀ {l : Led}, LCg.Off1 D l → ∀ p ∈ l, p.1 ≠ D
  | [], _, _, h => nomatch h
  | _ :: _, x, p, h => by
    rcases List.mem_cons.mp h with rfl | h
    · exact x.1
    · exact off1_mem x.2 p h
theorem nodup_off {D : Addr} {o : Obj} {n n' : Led} (h : LCg.Off1 D n) (nd : (keys n).Nodup) (P : n.Perm n') : (keys ((D, o) :: n')).Nodup := by
  rw [keys_cons, List.nodup_cons]
  exact ⟨mem_keys.mpr fun p hp => off1_mem h p (P.mem_iff.mpr hp), nodup_perm P nd⟩
theorem news_perm1 {h₀ h : Heap} {L : Addr} {x : Addr × Obj} {n n' : Led} (N : News h₀ L h (x :: n)) (P : n.Perm n') : News h₀ L h (x :: n') := fun p hp => N p ((List.mem_cons.mp hp).elim (fun e => by subst e; exact .head _) fun h => .tail _ (P.mem_iff.mpr h))
theorem comp_end {h₀ h' : Heap} {L I C D r o d : Addr} {m : Str → Option Value} {s₁ : Shared} {oI oC oD a b c : Obj} {news : Led} {rest : Value → Led → Prop} {y : Value} {tk : Nat}
    (F : Fr h₀ L h' m) (N : News h₀ L h' ((r, a) :: (o, b) :: (d, c) :: (I, oI) :: (C, oC) :: (D, oD) :: news)) (off : LCg.Off3 I C D news) (l1 : AllLt d ((I, oI) :: (C, oC) :: (D, oD) :: news)) (l2 : @LT.lt Nat _ d o) (l3 : @LT.lt Nat _ o r)
    (h : rest y ((r, a) :: (o, b) :: (d, c) :: news)) : LCg.CompEnd h₀ L m s₁ I oI C oC D oD (fun _ => True) rest y { s₁ with heap := h', toks := tk } := by
  have x1 : @LT.lt Nat _ I d := l1.1
  have x2 : @LT.lt Nat _ C d := l1.2.1
  have x3 : @LT.lt Nat _ D d := l1.2.2.1
  refine LCg.CompEnd.intro F N ((r, a) :: (o, b) :: (d, c) :: news) ?_ ?_ trivial h
  · intro p hp
    simp only [List.mem_cons] at hp ⊢
    rcases hp with h | h | h | h | h | h | h <;> simp [h]
  · refine ⟨⟨?_, ?_, ?_⟩, ⟨?_, ?_, ?_⟩, ⟨?_, ?_, ?_⟩, off⟩ <;> (dsimp only; omega)
def JC (w : World) (base : Led) (i : Nat) (ys : List Value) (news : Led) : Prop := ∃ ts : List Th, ts.map (·.k) = [0, 0, 1, 1, 2, 2].take i ∧ (∀ t ∈ ts, Ok t.k t.v) ∧ ys = refT ts ∧ news.Perm (flatT w ts ++ base) ∧ (keys news).Nodup
theorem J_step {w : World} {base : Led} {i k : Nat} {ys : List Value} {news : Led} {r o d : Addr} {tk u : Tok} {c : Nat} {T : Nat → Tok} (hJ : JC w base i ys news) (hk : [0, 0, 1, 1, 2, 2].take (i + 1) = [0, 0, 1, 1, 2, 2].take i ++ [k]) (hok : Ok k 0)
    {p1 p2 p3 : Addr × Obj} (l0 : AllLt d (p1 :: p2 :: p3 :: news)) (l2 : @LT.lt Nat _ d o) (l3 : @LT.lt Nat _ o r) : JC w base (i + 1) (ys ++ [.ref r]) (chunk w k r o d tk c T 0 u ++ news) := by
  obtain ⟨ts, hts, ho, rfl, P, nd⟩ := hJ
  have l1 : ∀ p ∈ news, @LT.lt Nat _ p.1 d := allLt_mem l0.2.2.2
  refine ⟨ts ++ [⟨k, r, o, d, tk, c, T, 0, u⟩], by rw [List.map_append, hts, hk]; rfl, ?_, by rw [refT, refT, List.map_append]; rfl, ?_, ?_⟩
  · intro t h
    rcases List.mem_append.mp h with h | h
    · exact ho t h
    · exact (List.mem_singleton.mp h) ▸ hok
  · rw [flatT_append]
    refine (List.Perm.append_left _ P).trans ?_
    show List.Perm _ ((flatT w ts ++ (chunk w k r o d tk c T 0 u ++ [])) ++ base)
    rw [List.append_nil, List.append_assoc]
    exact List.perm_append_comm_assoc ..
  · refine nodup_of (t := ⟨k, r, o, d, tk, c, T, 0, u⟩) ?_ nd
    have q : ∀ y : Nat, @LE.le Nat _ d y → ∀ p ∈ news, p.1 ≠ y := fun y hy p hp => Nat.ne_of_lt (Nat.lt_of_lt_of_le (l1 p hp) hy)
    refine ⟨?_, ?_, ?_, q _ ?_, q _ ?_, q _ ?_⟩
    · show @Ne Nat _ _; dsimp only; omega
    · show @Ne Nat _ _; dsimp only; omega
    · show @Ne Nat _ _; dsimp only; omega
    · show @LE.le Nat _ _ _; dsimp only; omega
    · show @LE.le Nat _ _ _; dsimp only; omega
    · show @LE.le Nat _ _ _; dsimp only; omega
theorem thT (w : World) {m : Str → Option Value} {base : Led} {ax : Addr} (hnd : (keys base).Nodup) (hN : m (Str.ofString "nums") = some (.ref ax)) :
    SCon w thX.1 m base (fun f m' n' => f = .next ∧ m' (Str.ofString "nums") = some (.ref ax) ∧ ∃ tl a ts, m' (Str.ofString "things") = some (.ref tl) ∧ ts.map (·.k) = [0, 0, 1, 1, 2, 2] ∧ (∀ t ∈ ts, Ok t.k t.v) ∧ n' = (tl, listOf (refT ts).toArray a) :: (flatT w ts ++ base) ∧ (keys n').Nodup) := by
  intro p loose mean mg mb dp un gd a ccd A₀ h₀ L s Q E B F X₀ N TT hd hu hret
  rw [ov hN] at F
  dsimp only [thX, scX, lawX]
  iterate 1 walk1
  refine comp_ind (JC w base) ?turn ?fin 6 0 [] base rfl ⟨[], rfl, (fun _ h => nomatch h), rfl, List.Perm.refl _, hnd⟩
  case turn =>
    intro i ys news hi hJ v I oI C oC D m₂ h tk E' hP hC hx F8 N8 off ne
    obtain ⟨t8, rfl⟩ := hP
    match i, hi with
    | 0, _ =>
      k_steps
      (with_reducible rename News _ _ _ _ => N9)
      (with_reducible rename Fr _ _ _ _ => F9)
      refine comp_end F9 N9 off (by assumption) (by assumption) ?o3 ?r3
      case o3 => show @LT.lt Nat _ _ _; omega
      case r3 => exact J_step (k := 0) hJ rfl (ok0 0) (p1 := (I, oI)) (p2 := (C, oC)) (p3 := (D, LCg.lst ys)) (by assumption) (by assumption) (by show @LT.lt Nat _ _ _; omega)
    | 1, _ =>
      k_steps
      (with_reducible rename News _ _ _ _ => N9)
      (with_reducible rename Fr _ _ _ _ => F9)
      refine comp_end F9 N9 off (by assumption) (by assumption) ?o3 ?r3
      case o3 => show @LT.lt Nat _ _ _; omega
      case r3 => exact J_step (k := 0) hJ rfl (ok0 0) (p1 := (I, oI)) (p2 := (C, oC)) (p3 := (D, LCg.lst ys)) (by assumption) (by assumption) (by show @LT.lt Nat _ _ _; omega)
    | 2, _ =>
      k_steps
      (with_reducible rename News _ _ _ _ => N9)
      (with_reducible rename Fr _ _ _ _ => F9)
      refine comp_end F9 N9 off (by assumption) (by assumption) ?o3 ?r3
      case o3 => show @LT.lt Nat _ _ _; omega
      case r3 => exact J_step (k := 1) hJ rfl (ok0 1) (p1 := (I, oI)) (p2 := (C, oC)) (p3 := (D, LCg.lst ys)) (by assumption) (by assumption) (by show @LT.lt Nat _ _ _; omega)
    | 3, _ =>
      k_steps
      (with_reducible rename News _ _ _ _ => N9)
      (with_reducible rename Fr _ _ _ _ => F9)
      refine comp_end F9 N9 off (by assumption) (by assumption) ?o3 ?r3
      case o3 => show @LT.lt Nat _ _ _; omega
      case r3 => exact J_step (k := 1) hJ rfl (ok0 1) (p1 := (I, oI)) (p2 := (C, oC)) (p3 := (D, LCg.lst ys)) (by assumption) (by assumption) (by show @LT.lt Nat _ _ _; omega)
    | 4, _ =>
      k_steps
      (with_reducible rename News _ _ _ _ => N9)
      (with_reducible rename Fr _ _ _ _ => F9)
      refine comp_end F9 N9 off (by assumption) (by assumption) ?o3 ?r3
      case o3 => show @LT.lt Nat _ _ _; omega
      case r3 => exact J_step (k := 2) hJ rfl (ok0 2) (p1 := (I, oI)) (p2 := (C, oC)) (p3 := (D, LCg.lst ys)) (by assumption) (by assumption) (by show @LT.lt Nat _ _ _; omega)
    | 5, _ =>
      k_steps
      (with_reducible rename News _ _ _ _ => N9)
      (with_reducible rename Fr _ _ _ _ => F9)
      refine comp_end F9 N9 off (by assumption) (by assumption) ?o3 ?r3
      case o3 => show @LT.lt Nat _ _ _; omega
      case r3 => exact J_step (k := 2) hJ rfl (ok0 2) (p1 := (I, oI)) (p2 := (C, oC)) (p3 := (D, LCg.lst ys)) (by assumption) (by assumption) (by show @LT.lt Nat _ _ _; omega)
    | n + 6, h => omega
  case fin =>
    rintro ys news ⟨ts, hts, hok, rfl, P, nd⟩
    k_steps
    (with_reducible rename News _ _ _ _ => N9)
    (with_reducible rename Fr _ _ _ _ => F9)
    (rename LCg.Off1 _ _ => O9)
    have N7 := news_perm1 N9 P
    refine hret _ _ ?nn _ _ ?R F9 ?NN
    case NN => exact N7
    case R => exact ⟨rfl, rfl, _, _, ts, rfl, hts, hok, rfl, nodup_off O9 nd P⟩
end Mine
-- part LW
namespace Mine
local macro_rules | `(tactic| k_room) => `(tactic| ktr_room)
def cdX : (p : Stmt) ×' nth 2 lawX.1.1 = some p := ⟨_, rfl⟩
theorem cdT (w : World) {m : Str → Option Value} {n : Led} {ax tl : Addr} (hN : m (Str.ofString "nums") = some (.ref ax)) (hT : m (Str.ofString "things") = some (.ref tl)) (hnd : (keys n).Nodup) :
    SCon w cdX.1 m n (fun f m' n' => f = .next ∧ m' (Str.ofString "nums") = some (.ref ax) ∧ m' (Str.ofString "things") = some (.ref tl) ∧ ∃ cl b, m' (Str.ofString "codes") = some (.ref cl) ∧ n' = (cl, listOf #[] b) :: n ∧ (keys n').Nodup) := by
  intro p loose mean mg mb dp un gd a ccd A₀ h₀ L s Q E B F X₀ N TT hd hu hret
  rw [ov hN, ov hT] at F
  dsimp only [cdX, scX, lawX]
  k_steps
  (with_reducible rename News _ _ _ _ => N9)
  (with_reducible rename Fr _ _ _ _ => F9)
  refine hret _ _ ?nn _ _ ?R F9 ?NN
  case NN => exact N9
  case R => exact ⟨rfl, rfl, rfl, _, _, rfl, rfl, nodup_more (x := (_, _)) hnd (fun p hp => Nat.ne_of_lt ((by assumption : ∀ p ∈ n, p.1 < _) p hp))⟩
/-- the law behind its list of numbers -/
theorem bodyT (w : World) {m : Str → Option Value} {base : Led} {ax : Addr} {vs : List Value} {nx : Nat} (hN : m (Str.ofString "nums") = some (.ref ax)) (hnd : (keys base).Nodup) (hax : (ax, listOf vs.toArray nx) ∈ base)
    (hvs : ∀ (i : Nat) (v : Value), vs[i]? = some v → ∃ X tx, v = Value.int X tx ∧ 0 ≤ X ∧ X < 1048576) (hlen : vs.length ≤ 90) (h7 : ∃ (j : Nat) (X : Int) (t : Tok), vs[j]? = some (Value.int X t) ∧ (X.fdiv 6).fmod 8 = 7) :
    SCs w [thX.1, cdX.1, forX.1, lastX.1, formX.1, grpX.1, retX.1] m base (fun f _ _ => f = .ret (.bool true)) := by
  refine SCs.cons (thT w hnd hN) ?_
  rintro f m1 n1 ⟨rfl, hN1, tl, a, ts, hT1, hk, hok, rfl, hnd1⟩
  refine ⟨rfl, SCs.cons (cdT w hN1 hT1 hnd1) ?_⟩
  rintro f m2 n2 ⟨rfl, hN2, hT2, cl, b, hC2, rfl, hnd2⟩
  refine ⟨rfl, SCs.cons (loopT w (tl := tl) (cl := cl) (a := a) (b := b) (base := base) (ts := ts) hax hvs hlen hT2 hC2 hN2 hk hok (List.Perm.swap ..) hnd2) ?_⟩
  rintro f m3 n3 ⟨rfl, hC3, cs, b', hco, hl, hne, hcl, hcs⟩
  exact ⟨rfl, endT w hC3 hcl hcs hco (hne h7) hl⟩
end Mine
-- part MN
namespace Mine
theorem ints_get : ∀ {vs : List Value} {ns : List Int}, IntsAre vs ns → ∀ (i : Nat) (v : Value), vs[i]? = some v → ∃ X tx, v = Value.int X tx ∧ X ∈ ns
  | _, _, .nil, i, v, h => by simp at h
  | _, _, .cons n t r, i, v, h => by
    cases i with
    | zero => exact ⟨n, t, (Option.some.inj h).symm, .head _⟩
    | succ i =>
      obtain ⟨X, tx, e, m⟩ := ints_get r i v (by simpa using h)
      exact ⟨X, tx, e, .tail _ m⟩
theorem ints_at : ∀ {vs : List Value} {ns : List Int}, IntsAre vs ns → ∀ (i : Nat) (X : Int), ns[i]? = some X → ∃ tx, vs[i]? = some (Value.int X tx)
  | _, _, .nil, i, v, h => by simp at h
  | _, _, .cons n t r, i, v, h => by
    cases i with
    | zero => exact ⟨t, by rw [Option.some.inj h.symm]; rfl⟩
    | succ i =>
      obtain ⟨tx, e⟩ := ints_at r i v (by simpa using h)
      exact ⟨tx, by simpa using e⟩
theorem nums_ok {vs : List Value} {ks : List Int} (h : IntsAre vs (ks.map (fun k' => k'.fmod 1048576) ++ [7920, 7922, 7924, 42, 12, 38, 22, 31])) (hk : ks.length ≤ 20) :
    (∀ (i : Nat) (v : Value), vs[i]? = some v → ∃ X tx, v = Value.int X tx ∧ 0 ≤ X ∧ X < 1048576) ∧ vs.length ≤ 90 ∧ ∃ (j : Nat) (X : Int) (t : Tok), vs[j]? = some (Value.int X t) ∧ (X.fdiv 6).fmod 8 = 7 := by
  refine ⟨fun i v hv => ?_, ?_, ?_⟩
  · obtain ⟨X, tx, e, m⟩ := ints_get h i v hv
    refine ⟨X, tx, e, ?_⟩
    rcases List.mem_append.mp m with m | m
    · obtain ⟨k, _, rfl⟩ := List.mem_map.mp m
      rw [Int.fmod_eq_emod_of_nonneg k (by decide)]
      omega
    · simp only [List.mem_cons, List.not_mem_nil, or_false] at m
      omega
  · rw [h.length, List.length_append, List.length_map]
    show ks.length + 8 ≤ 90
    omega
  · obtain ⟨t, e⟩ := ints_at h (ks.length + 3) 42 (by rw [List.getElem?_append_right (by rw [List.length_map]; omega), List.length_map, Nat.add_sub_cancel_left]; rfl)
    exact ⟨_, _, t, e, rfl⟩
theorem main : PySem.Challenge.rw_ff5034_01.Holds := by
  refine hd ?_
  k_go0
  (all_goals try k_fold)
  iterate 33 (first | walk1 | (dsimp only; walk1))
  (with_reducible rename News _ _ _ _ => N9)
  (with_reducible rename Fr _ _ _ _ => F9)
  (rename IntsAre _ (_ ++ _) => I9)
  (with_reducible rename Frag.In _ _ => X9)
  (with_reducible rename Top _ _ _ _ _ _ => T9)
  (with_reducible rename Below _ _ _ _ => B9)
  have q9 := nums_ok I9 (by rw [List.length_take]; exact Nat.min_le_left ..)
  refine bodyT _ (base := [(_, listOf _ 0)]) rfl ?nd (.head _) q9.1 q9.2.1 q9.2.2 _ _ _ _ _ _ _ _ _ _ _ _ _ _ _ _ B9 F9 X9 (fun p hp => N9 p ?sb) T9 ?hd ?hu ?ret
  case nd => exact List.nodup_cons.mpr ⟨(fun h => nomatch h), List.nodup_nil⟩
  case sb => exact (List.mem_singleton.mp hp) ▸ .head _
  case hd => decide
  case hu => (have q8 := cLine_is; show 4 + 3 + 400 < cLine; omega)
  case ret =>
    intro f m' n' h' tk' hf F' N'
    obtain rfl := hf
    refine goodW_bool F' (by assumption) (raisesW_false ?_) ?_
    · wrow_none_raised
    · wrow_post
end Mine
theorem PySem.Challenge.cw_ff5034_01_holds : PySem.Challenge.rw_ff5034_01.Holds := by
  exact Mine.main
