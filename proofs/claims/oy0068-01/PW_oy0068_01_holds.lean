import PyProof.Rows.All
import Wide.All
import OpenK.AllK
import Wide.FinOn
import Lean
import PySem.Challenge.RW_oy0068_01
open PySem PySem.W PyProof.Rows
set_option Elab.async false
set_option compiler.extract_closed false
set_option linter.all false
set_option maxRecDepth 100000
set_option maxHeartbeats 0
namespace Mine
set_option synthInstance.maxSize 1 in
open_top hd for PySem.Challenge.rw_oy0068_01
end Mine
theorem Mine.walk_off : True := by
  w_top off
  trivial
section
open PySem PySem.W PyProof.Rows PySem.Calls
set_option Elab.async false
set_option maxRecDepth 100000
set_option maxHeartbeats 4000000
namespace Mine

/-- a bytes object: its octets and its token -/
noncomputable abbrev BT := Array UInt8 × Tok
noncomputable def bv (p : BT) : Value := .bytes p.1 p.2
noncomputable def bvs (l : List BT) : List Value := l.map bv
noncomputable abbrev blist (l : List BT) (n : Nat) : Obj := listOf (bvs l).toArray n
noncomputable def bnil : BT := (#[], 0)
theorem bvs_length (l : List BT) : (bvs l).length = l.length := by simp [bvs]
theorem bvs_get {l : List BT} {k : Nat} (h : k < l.length) : (bvs l)[k]? = some (bv (l.getD k bnil)) := by
  simp [bvs, h]
theorem bvs_set (l : List BT) (k : Nat) (p : BT) : (bvs l).set k (bv p) = bvs (l.set k p) := by
  simp [bvs, List.map_set]
theorem bvs_push (l : List BT) (p : BT) : (bvs l).toArray.push (bv p) = (bvs (l ++ [p])).toArray := by
  simp [bvs]

/-- the order of octets, as the model's bytes are compared -/
noncomputable def blt (b c : Array UInt8) : Bool := Builtin.Bytes.order b.toList c.toList == .lt

theorem slot_bytes_lt : Slot "bytes" (cmpInfo .Lt).2.1 "bytes.__lt__" :=
  .of (owner := "bytes") (n := "__lt__") (by rw [typeLookup_type, builtinLookup_eq_fast]; kernel_rfl) (by decide +kernel) (by decide +kernel) (by decide +kernel)
    (by first | exact .inl (by decide +kernel) | exact .inr (by decide +kernel)) (by rw [isSubtype_type]; kernel_rfl)
theorem entry_bytes_lt : entryFor table "bytes.__lt__" = some Builtin.«bytes.__lt__» := entryFor_of_tree (by kernel_rfl)
theorem args_bytes_lt_2 (a b : Value) : argsOk "bytes.__lt__" ⟨[a, b], []⟩ := by
  unfold argsOk; rw [signature?_of (id := "bytes.__lt__") (n := ['_', '_', 't', 'l', '_', '_']) (o := ['s', 'e', 't', 'y', 'b']) (by kernel_rfl) FB.owner_bytes]; kernel_rfl
theorem gives_bytes_lt (b c : Array UInt8) (t u : Tok) : Gives (Builtin.«bytes.__lt__» ⟨[.bytes b t, .bytes c u], []⟩) (.val (.bool (blt b c))) := by
  refine .of_wp fun M A E s Q hq => ?_
  show wpAny M A (isInstance (.bytes c u) (.type "bytes") >>= fun r => _) _ E s
  refine wpAny_bind (wpAny_isInstance (typeIs_bytes s c u) F.sub_bytes_bytes ?_)
  exact wpAny_pure ⟨_, rfl, hq⟩

section
variable {prog : Program} {w : World} {A : Around} {E : Value → Shared → Prop} {s : Shared} {h₀ : Heap} {L D : Addr} {m : Str → Option Value} {news news' : List (Addr × Obj)} {l : List BT} {n : Nat} {k : Int} {t u : Tok} {p q : BT}
theorem lt_bytes {b c : Array UInt8} {Q : Value → Shared → Prop} (h : Q (.bool (blt b c)) s) : wpAny (model prog w) A (compareOp .Lt (.bytes b t) (.bytes c u)) Q E s :=
  compareOp_gives (op := .Lt) (typeIs_bytes s b t) (typeIs_bytes s c u) slot_bytes_lt entry_bytes_lt (args_bytes_lt_2 _ _) (gives_bytes_lt b c t u) (fun e => nomatch e) h
theorem b_sub {value slice : PySem.Expr} {Q : Value → Shared → Prop} (N : News h₀ L s.heap news) (hm : (D, blist l n) ∈ news) (h0 : 0 ≤ k) (h1 : k < l.length) (hfit : k < 2 ^ 63) (h : Q (.bytes (l.getD k.toNat bnil).1 (l.getD k.toNat bnil).2) s)
    (hs : subscripted slice false (.ref D) (.int k u) = operate [.ref D, .int k u] (getItem (.ref D) (.int k u)) := by with_unfolding_all rfl) (hg : ∀ r, letTemporaryGo value (.ref D) r = pure () := by intro _; with_unfolding_all rfl) :
    wpAny (model prog w) A (subscriptTail value slice (.ref D) (.int k u)) Q E s :=
  kim_list N hm rfl rfl h0 hfit (bvs_get (by omega)) h hs hg
theorem b_set {b : Array UInt8} {Q : Unit → Shared → Prop} (F : Fr h₀ L s.heap m) (N : News h₀ L s.heap news) (U : Upd D (blist l n) (blist (l.set k.toNat (b, u)) n) news news') (h0 : 0 ≤ k) (h1 : k < l.length) (hfit : k < 2 ^ 63)
    (h : ∀ h', Fr h₀ L h' m → News h₀ L h' news' → Q () { s with heap := h' }) :
    wpAny (model prog w) A (setItem (.ref D) (.int k t) (.bytes b u)) Q E s := by
  obtain ⟨pre, post, rfl, rfl, a, bb⟩ := U.split
  have z := N (D, blist l n) (List.mem_append.mpr (.inr (.head _)))
  have hs : (bvs l).toArray.size = l.length := by rw [List.size_toArray]; exact bvs_length l
  refine ki_setAt z.1 h0 hfit (by omega) (h _ (F.change (Heap.SameBut.update ..) z.2.1 z.2.2) (ki_turn _ N a bb ?_ ?_))
  · show (bvs l).toArray.setIfInBounds k.toNat (bv (b, u)) = _
    rw [← bvs_set]
    apply Array.toList_inj.mp
    simp
  · simp [bvs_length]
theorem b_append {b : Array UInt8} {Q : Value → Shared → Prop} (F : Fr h₀ L s.heap m) (N : News h₀ L s.heap news) (U : Upd D (blist l n) (blist (l ++ [(b, u)]) (n + 1)) news news') (hz : l.length ≤ 1000)
    (h : ∀ h', Fr h₀ L h' m → News h₀ L h' news' → Q .none { s with heap := h' }) :
    wpAny (model prog w) A (call (.builtin "list.append") [.ref D, .bytes b u]) Q E s := by
  refine append_K F N (its := (bvs l).toArray) (n := n) ?_ h ?_
  · show Upd D _ (listOf ((bvs l).toArray.push (bv (b, u))) _) _ _
    rw [bvs_push]; exact U
  · rw [List.size_toArray, bvs_length, sizeLine_eq]; omega
theorem b_pop {Q : Value → Shared → Prop} (F : Fr h₀ L s.heap m) (N : News h₀ L s.heap news) (U : Upd D (blist (l ++ [p]) n) (blist l (n + 1)) news news') (hz : l.length ≤ 1000)
    (h : ∀ h', Fr h₀ L h' m → News h₀ L h' news' → Q (.bytes p.1 p.2) { s with heap := h' }) :
    wpAny (model prog w) A (call (.builtin "list.pop") [.ref D]) Q E s := by
  refine kl_pop F N (its := (bvs (l ++ [p])).toArray) (p := bvs l) (y := bv p) ?_ U ?_ h
  · have : (bvs (l ++ [p])).toArray.toList = bvs l ++ [bv p] := by simp [bvs]
    rw [this]; exact kpa_last _ _
  · show (bvs (l ++ [p])).length ≤ sizeLine
    rw [bvs_length, sizeLine_eq]; simp; omega
theorem b_isList (N : News h₀ L s.heap news) (hm : (D, blist l n) ∈ news) : s.heap.IsList D (bvs l).toArray := ⟨blist l n, (N _ hm).1, rfl, n, rfl⟩
theorem b_len {Q : Value → Shared → Prop} (N : News h₀ L s.heap news) (hm : (D, blist l n) ∈ news) (hl : l.length ≤ 1000) (h : ∀ k k', Q (.int (l.length : Int) k) { s with toks := k' }) :
    wpAny (model prog w) A (call (.builtin "len") [.ref D]) Q E s := by
  have hs : (bvs l).toArray.size = l.length := by rw [List.size_toArray]; exact bvs_length l
  refine len_list (b_isList N hm) (by rw [hs]; omega) ?_
  rw [hs]; exact h _ _
theorem b_truthy {Q : Bool → Shared → Prop} (N : News h₀ L s.heap news) (hm : (D, blist l n) ∈ news) (hl : l.length ≤ 1000) (h : ∀ k', Q (decide (0 < l.length)) { s with toks := k' }) :
    wpAny (model prog w) A (truthy (.ref D)) Q E s := by
  have hs : (bvs l).toArray.size = l.length := by rw [List.size_toArray]; exact bvs_length l
  refine wpAny_truthy_list (b_isList N hm) (by rw [hs]; omega) ?_
  have e : (!(bvs l).toArray.isEmpty) = decide (0 < l.length) := by
    cases l with
    | nil => rfl
    | cons _ _ => simp [bvs]
  rw [e]; exact h _
end

section
variable {prog : Program} {w : World} {A : Around} {E : Value → Shared → Prop} {s : Shared} {a : Int} {t u : Tok}
theorem shr1 {Q : Value → Shared → Prop} (h : ∀ k, Q (.int (a / 2) k) { s with toks := s.toks + 1 }) :
    wpAny (model prog w) A (binaryOp .RShift (.int a t) (.int 1 u)) Q E s := by
  refine rshift_int (by decide) ?_
  have e : a.fdiv (2 ^ Int.toNat 1) = a / 2 := by
    show a.fdiv 2 = a / 2
    exact Int.fdiv_eq_ediv_of_nonneg a (by decide)
  rw [e]
  exact h _
end

section
variable {prog : Program} {w : World} {A : Around} {E : Value → Shared → Prop} {s : Shared} {value slice : PySem.Expr} {b : Array UInt8} {t : Tok} {h₀ : Heap} {L : Addr} {m : PySem.Str → Option Value} {news : List (Addr × Obj)} {Q : Value → Shared → Prop}
/-- b[i : i + 1] -/
theorem cut1_K {i : Int} {ti tj : Tok} (hF : Fr h₀ L s.heap m) (hN : News h₀ L s.heap news) (h0 : 0 ≤ i) (h1 : i < b.size) (hz : b.size ≤ 1000)
    (h : ∀ h' t' k, Fr h₀ L h' m → News h₀ L h' news → Q (.bytes #[b.getD i.toNat 0] t') { s with heap := h', toks := k })
    (hs : subscripted slice false (.bytes b t) (.ref s.heap.objs.size) = operate [.ref s.heap.objs.size, .bytes b t] (getItem (.bytes b t) (.ref s.heap.objs.size)) := by with_unfolding_all rfl)
    (ht : ∀ r, letTemporaryGo value (.bytes b t) r = pure () := by intro _; with_unfolding_all rfl) :
    wpAny (model prog w) A (subscriptTail value slice (.bytes b t) (.ref s.heap.objs.size)) Q E { s with heap := s.heap.push { cls := .type "slice", data := .fields #[.int i ti, .int (i + 1) tj, .none] } } := by
  refine KBc.slice_K hF hN rfl (.int i ti) (.int (i + 1) tj) (by rw [KBw.ints_length]; omega) (fun h' t' k F' N' _ => ?_) hs ht
  have e : KBy.picked b (some i) (some (i + 1)) = #[b.getD i.toNat 0] := by
    have e1 : i = ((i.toNat : Nat) : Int) := by omega
    have e2 : i + 1 = ((i.toNat + 1 : Nat) : Int) := by omega
    have hj : i.toNat < b.size := by omega
    rw [KBc.picked_eq, e2]
    generalize hi : i.toNat = j at *
    rw [e1]
    simp only [Option.elim, clipAt_nat]
    rw [Nat.min_eq_left (by omega), Nat.min_eq_left (by omega), Nat.add_sub_cancel_left]
    have : j < b.toList.length := by simpa using hj
    rw [List.drop_eq_getElem_cons this]
    simp [Array.getD, hj]
  rw [e]
  exact h h' t' k F' N'
/-- b[1:] -/
theorem cutTail_K {ti : Tok} (hF : Fr h₀ L s.heap m) (hN : News h₀ L s.heap news) (h1 : 1 ≤ b.size) (hz : b.size ≤ 1000)
    (h : ∀ h' t' k, Fr h₀ L h' m → News h₀ L h' news → Q (.bytes (b.toList.drop 1).toArray t') { s with heap := h', toks := k })
    (hs : subscripted slice false (.bytes b t) (.ref s.heap.objs.size) = operate [.ref s.heap.objs.size, .bytes b t] (getItem (.bytes b t) (.ref s.heap.objs.size)) := by with_unfolding_all rfl)
    (ht : ∀ r, letTemporaryGo value (.bytes b t) r = pure () := by intro _; with_unfolding_all rfl) :
    wpAny (model prog w) A (subscriptTail value slice (.bytes b t) (.ref s.heap.objs.size)) Q E { s with heap := s.heap.push { cls := .type "slice", data := .fields #[.int 1 ti, .none, .none] } } := by
  refine KBc.slice_K hF hN rfl (.int 1 ti) .none (by rw [KBw.ints_length]; omega) (fun h' t' k F' N' _ => ?_) hs ht
  have e : KBy.picked b (some 1) none = (b.toList.drop 1).toArray := by
    rw [KBc.picked_eq]
    have e9 : clipAt b.size (1 : Int) = 1 := (clipAt_nat b.size 1).trans (Nat.min_eq_left h1)
    simp only [Option.elim]
    rw [e9, List.take_of_length_le (by simp)]
  rw [e]
  exact h h' t' k F' N'
/-- b[:1] -/
theorem cutHead_K {ti : Tok} (hF : Fr h₀ L s.heap m) (hN : News h₀ L s.heap news) (h1 : 1 ≤ b.size) (hz : b.size ≤ 1000)
    (h : ∀ h' t' k, Fr h₀ L h' m → News h₀ L h' news → Q (.bytes #[b.getD 0 0] t') { s with heap := h', toks := k })
    (hs : subscripted slice false (.bytes b t) (.ref s.heap.objs.size) = operate [.ref s.heap.objs.size, .bytes b t] (getItem (.bytes b t) (.ref s.heap.objs.size)) := by with_unfolding_all rfl)
    (ht : ∀ r, letTemporaryGo value (.bytes b t) r = pure () := by intro _; with_unfolding_all rfl) :
    wpAny (model prog w) A (subscriptTail value slice (.bytes b t) (.ref s.heap.objs.size)) Q E { s with heap := s.heap.push { cls := .type "slice", data := .fields #[.none, .int 1 ti, .none] } } := by
  refine KBc.slice_K hF hN rfl .none (.int 1 ti) (by rw [KBw.ints_length]; omega) (fun h' t' k F' N' _ => ?_) hs ht
  have e : KBy.picked b none (some 1) = #[b.getD 0 0] := by
    rw [KBc.picked_eq]
    have e9 : clipAt b.size (1 : Int) = 1 := (clipAt_nat b.size 1).trans (Nat.min_eq_left h1)
    simp only [Option.elim, List.drop_zero, Nat.sub_zero]
    rw [e9]
    have : 0 < b.toList.length := by rw [Array.length_toList]; exact h1
    cases hb : b.toList with
    | nil => rw [hb] at this; exact absurd this (Nat.lt_irrefl _)
    | cons x r =>
      have hb2 : b = (x :: r).toArray := by rw [← hb, Array.toArray_toList]
      subst hb2
      simp [Array.getD]
  rw [e]
  exact h h' t' k F' N'
/-- b[i] -/
theorem bitem_K {i : Int} {ui : Tok} (h0 : 0 ≤ i) (h1 : i < b.size) (hz : b.size ≤ 1000) (h : ∀ t' k, Q (.int ((b.getD i.toNat 0).toNat : Int) t') { s with toks := k })
    (hs : subscripted slice false (.bytes b t) (.int i ui) = operate [.bytes b t, .int i ui] (getItem (.bytes b t) (.int i ui)) := by with_unfolding_all rfl)
    (ht : ∀ r, letTemporaryGo value (.bytes b t) r = pure () := by intro _; with_unfolding_all rfl) :
    wpAny (model prog w) A (subscriptTail value slice (.bytes b t) (.int i ui)) Q E s := by
  have hs' := hs
  refine KBy.item_N (x := b.toList) (by simp; omega) h0 (by simpa using h1) ?_ hs ht
  have e : b.toList.getD i.toNat 0 = b.getD i.toNat 0 := by
    have hj : i.toNat < b.size := by omega
    simp [Array.getD, hj]
  rw [e]
  exact h _ _
end

/-- a call's contract: from any frame, with the ledger news, the call hands back r and a ledger with Post r ledger -/
noncomputable def Ctr (lv : Nat) (w : World) (f : Addr) (vs : List Value) (news : List (Addr × Obj)) (Post : Value → List (Addr × Obj) → Prop) : Prop :=
  ∀ (dp un : Nat) (gd : Option (List Code)) (cn : Str) (cs : Scope) (a : Addr) (ccd : Value) (cl : List (Str × Addr)) (outer : List Env) (A₀ : Around) (base h₀ : Heap) (L : Addr) (m : Str → Option Value)
    (p : Program) (loose : List Str) (mean : ExcName → Option Value) (mg mb : Str → Option Value) (s : Shared) (Q E : Value → Shared → Prop),
    Below A₀ base outer h₀ → Fr h₀ L s.heap m → (hd.heap_39 w.params).In h₀ → News h₀ L s.heap news → Top p loose mean mg mb h₀ → cs.kind = .function →
    dp + lv < recursionLimit → un + 10 * lv < cLine →
    (∀ r h' tk' news', Post r news' → Fr h₀ L h' m → News h₀ L h' news' → Q r { s with heap := h', toks := tk' }) →
    wpAny (model PySem.Challenge.rw_oy0068_01.row.prog w) (ktrTop dp un gd cn cs L a ccd cl outer) (call (.ref f) vs) Q E s

/-- a contract that turns one object of the ledger, wherever it stands -/
theorem Ctr.upd {lv : Nat} {w : World} {f : Addr} {vs : List Value} {news news' : List (Addr × Obj)} {D : Addr} {o o' : Obj} {R : Value → Prop} (U : Upd D o o' news news')
    (C : ∀ rest, (∀ p ∈ rest, p.1 ≠ D) → Ctr lv w f vs ((D, o) :: rest) (fun r nx => R r ∧ nx = (D, o') :: rest)) : Ctr lv w f vs news (fun r nx => R r ∧ nx = news') := by
  obtain ⟨pre, post, rfl, rfl, ha, hb⟩ := U.split
  intro dp un gd cn cs a ccd cl outer A₀ base h₀ L m p loose mean mg mb s Q E B F X N T hk hdp hun hret
  have hne : ∀ p ∈ pre ++ post, p.1 ≠ D := fun p hp => (List.mem_append.mp hp).elim (ha p) (hb p)
  refine C (pre ++ post) hne dp un gd cn cs a ccd cl outer A₀ base h₀ L m p loose mean mg mb s Q E B F X ?_ T hk hdp hun ?_
  · intro q hq
    refine N q ?_
    rcases List.mem_cons.mp hq with rfl | hq
    · exact List.mem_append.mpr (.inr (.head _))
    · rcases List.mem_append.mp hq with hq | hq
      · exact List.mem_append.mpr (.inl hq)
      · exact List.mem_append.mpr (.inr (.tail _ hq))
  · rintro r h' tk' nx ⟨hr, rfl⟩ F' N'
    refine hret r h' tk' _ ⟨hr, rfl⟩ F' ?_
    intro q hq
    refine N' q ?_
    rcases List.mem_append.mp hq with hq | hq
    · exact .tail _ (List.mem_append.mpr (.inl hq))
    · rcases List.mem_cons.mp hq with rfl | hq
      · exact .head _
      · exact .tail _ (List.mem_append.mpr (.inr hq))
theorem Ctr.use {lv : Nat} {w : World} {f : Addr} {vs : List Value} {news : List (Addr × Obj)} {Post : Value → List (Addr × Obj) → Prop} (C : Ctr lv w f vs news Post)
    {dp un : Nat} {gd : Option (List Code)} {cn : Str} {cs : Scope} {a : Addr} {ccd : Value} {cl : List (Str × Addr)} {outer : List Env} {A₀ : Around} {base h₀ : Heap} {L : Addr} {m : Str → Option Value}
    {p : Program} {loose : List Str} {mean : ExcName → Option Value} {mg mb : Str → Option Value} {s : Shared} {Q E : Value → Shared → Prop}
    (B : Below A₀ base outer h₀) (F : Fr h₀ L s.heap m) (X : (hd.heap_39 w.params).In h₀) (N : News h₀ L s.heap news) (T : Top p loose mean mg mb h₀) (hk : cs.kind = .function)
    (hdp : dp + lv < recursionLimit) (hun : un + 10 * lv < cLine)
    (ret : ∀ r h' tk' news', Post r news' → Fr h₀ L h' m → News h₀ L h' news' → Q r { s with heap := h', toks := tk' }) :
    wpAny (model PySem.Challenge.rw_oy0068_01.row.prog w) (ktrTop dp un gd cn cs L a ccd cl outer) (call (.ref f) vs) Q E s :=
  C dp un gd cn cs a ccd cl outer A₀ base h₀ L m p loose mean mg mb s Q E B F X N T hk hdp hun ret
theorem Ctr.use' {lv : Nat} {w : World} {f : Addr} {vs : List Value} {news : List (Addr × Obj)} {Post : Value → List (Addr × Obj) → Prop}
    {dp un : Nat} {gd : Option (List Code)} {cn : Str} {cs : Scope} {a : Addr} {ccd : Value} {cl : List (Str × Addr)} {outer : List Env} {A₀ : Around} {base h₀ : Heap} {L : Addr} {m : Str → Option Value}
    {p : Program} {loose : List Str} {mean : ExcName → Option Value} {mg mb : Str → Option Value} {s : Shared} {Q E : Value → Shared → Prop}
    (F : Fr h₀ L s.heap m := by k_asm) (B : Below A₀ base outer h₀ := by first | assumption | k_asm) (X : (hd.heap_39 w.params).In h₀ := by k_asm) (N : News h₀ L s.heap news := by k_asm) (T : Top p loose mean mg mb h₀ := by k_asm)
    (hk : cs.kind = .function := by first | exact rfl | assumption) (C : Ctr lv w f vs news Post := by ktr_unf)
    (hdp : dp + lv < recursionLimit := by ktr_room) (hun : un + 10 * lv < cLine := by ktr_units)
    (ret : ∀ r h' tk' news', Post r news' → Fr h₀ L h' m → News h₀ L h' news' → Q r { s with heap := h', toks := tk' }) :
    wpAny (model PySem.Challenge.rw_oy0068_01.row.prog w) (ktrTop dp un gd cn cs L a ccd cl outer) (call (.ref f) vs) Q E s := C.use B F X N T hk hdp hun ret
end Mine
end
section
open PySem PySem.W PyProof.Rows PySem.Calls
set_option Elab.async false
set_option maxRecDepth 100000
set_option maxHeartbeats 4000000
namespace Mine
section
open LCg
variable {prog : Program} {w : World} {A : Around} {E : Value → Shared → Prop} {s : Shared} {h₀ : Heap} {L : Addr} {m : Str → Option Value} {env : Env}
theorem CompEnd.mono {I C D : Addr} {s₁ : Shared} {oI oC oD : Obj} {S : List (Addr × Obj) → Prop} {rest rest' : Value → List (Addr × Obj) → Prop} {y : Value} {s₂ : Shared}
    (hr : ∀ y nx, rest y nx → rest' y nx) (h : CompEnd h₀ L m s₁ I oI C oC D oD S rest y s₂) : CompEnd h₀ L m s₁ I oI C oC D oD S rest' y s₂ := by
  obtain ⟨h', tk, nx, e, F, N, off, hS, r⟩ := h
  exact ⟨h', tk, nx, e, F, N, off, hS, hr _ _ r⟩
/-- a comprehension by an invariant over the turn's number, the items so far and the ledger -/
theorem comp_ind {elt : Expr} {x : Str} {scope : Scope} {cl : List (Str × Addr)} {S : List (Addr × Obj) → Prop} {P : Nat → Value → Prop} {Fin : List Value → List (Addr × Obj) → Prop} {n : Nat}
    (J : Nat → List Value → List (Addr × Obj) → Prop)
    (step : ∀ (i : Nat) (ys : List Value) (news : List (Addr × Obj)) (v : Value) (I : Addr) (oI : Obj) (C : Addr) (oC : Obj) (D : Addr) (m₂ : Str → Option Value) (h : Heap) (tk : Nat) (E' : Value → Shared → Prop), i < n → J i ys news → P i v → NsObj oC m₂ → m₂ x = some v → Fr h₀ L h m → News h₀ L h ((I, oI) :: (C, oC) :: (D, lst ys) :: news) → Off3 I C D news → ((@Ne Nat I C) ∧ (@Ne Nat I D) ∧ (@Ne Nat C D)) →
      wpAny (model prog w) A (eval elt (compEnvC scope cl C env)) (CompEnd h₀ L m { s with heap := h, toks := tk } I oI C oC D (lst ys) S (fun y news' => J (i + 1) (ys ++ [y]) news')) E' { s with heap := h, toks := tk })
    (fin : ∀ ys news, J n ys news → Fin ys news) : ∀ (k i : Nat) (ys : List Value) (news : List (Addr × Obj)), i + k = n → J i ys news → CompRest prog w A h₀ L m env elt x scope cl s S P Fin k i ys news
  | 0, i, ys, news, e, hJ => fin ys news (by rw [← show i = n from e]; exact hJ)
  | k + 1, i, ys, news, e, hJ => by
    intro v I oI C oC D m₂ h tk E' hP hC hx F N off ne
    refine wpAny_mono (step i ys news v I oI C oC D m₂ h tk E' (by omega) hJ hP hC hx F N off ne) (fun y s₂ hE => ?_) fun _ _ e => e
    exact CompEnd.mono (fun y nx r => comp_ind J step fin k (i + 1) (ys ++ [y]) nx (by omega) r) hE

/-- the same with a test -/
theorem compT_ind {ct elt : Expr} {x : Str} {scope : Scope} {cl : List (Str × Addr)} {S : List (Addr × Obj) → Prop} {P : Nat → Value → Prop} {Fin : List Value → List (Addr × Obj) → Prop} {n : Nat}
    (J : Nat → List Value → List (Addr × Obj) → Prop)
    (step : ∀ (i : Nat) (ys : List Value) (news : List (Addr × Obj)) (v : Value) (I : Addr) (oI : Obj) (C : Addr) (oC : Obj) (D : Addr) (m₂ : Str → Option Value) (h : Heap) (tk : Nat) (E' : Value → Shared → Prop), i < n → J i ys news → P i v → NsObj oC m₂ → m₂ x = some v → Fr h₀ L h m → News h₀ L h ((I, oI) :: (C, oC) :: (D, lst ys) :: news) → Off3 I C D news → ((@Ne Nat I C) ∧ (@Ne Nat I D) ∧ (@Ne Nat C D)) →
      wpAny (model prog w) A (isTrue ct (compEnvC scope cl C env) (eval ct (compEnvC scope cl C env))) (fun ok s' => if ok = true then
        wpAny (model prog w) A (eval elt (compEnvC scope cl C env)) (CompEnd h₀ L m { s with heap := h, toks := tk } I oI C oC D (lst ys) S (fun y news' => J (i + 1) (ys ++ [y]) news')) E' s'
        else CompEnd h₀ L m { s with heap := h, toks := tk } I oI C oC D (lst ys) S (fun _ news' => J (i + 1) ys news') Value.none s') E' { s with heap := h, toks := tk })
    (fin : ∀ ys news, J n ys news → Fin ys news) : ∀ (k i : Nat) (ys : List Value) (news : List (Addr × Obj)), i + k = n → J i ys news → LCt.CompRestT prog w A h₀ L m env ct elt x scope cl s S P Fin k i ys news
  | 0, i, ys, news, e, hJ => fin ys news (by rw [← show i = n from e]; exact hJ)
  | k + 1, i, ys, news, e, hJ => by
    intro v I oI C oC D m₂ h tk E' hP hC hx F N off ne
    refine wpAny_mono (step i ys news v I oI C oC D m₂ h tk E' (by omega) hJ hP hC hx F N off ne) (fun ok s₂ hE => ?_) fun _ _ e => e
    cases ok with
    | true =>
      simp only [if_true] at hE ⊢
      exact wpAny_mono hE (fun y s₃ h₃ => CompEnd.mono (fun y nx r => compT_ind J step fin k (i + 1) (ys ++ [y]) nx (by omega) r) h₃) fun _ _ e => e
    | false =>
      simp only [Bool.false_eq_true, if_false] at hE ⊢
      exact CompEnd.mono (fun y nx r => compT_ind J step fin k (i + 1) ys nx (by omega) r) hE

theorem down_walks {I : Addr} (hh : A.handled = none) (a : Int) (n : Nat) : Walks prog w A I [I] [I] n (fun i v => ∃ t, v = .int (a - (i : Int)) t) (fun i h => IsRangeIter h I (a + (i : Nat) * (-1)) ((n : Int) - (i : Nat)) (-1)) :=
  let W := Walks.range (prog := prog) (w := w) hh I a (-1) n
  { sub := W.sub, frame := W.frame, done := W.done, self := W.self,
    item := fun i s Q E hi st hQ => W.item i s Q E hi st fun v h' tk hP => hQ v h' tk (by obtain ⟨t, rfl⟩ := hP; exact ⟨t, by rw [show a + (i : Int) * (-1) = a - (i : Int) by omega]⟩) }
/-- a comprehension over range(5, -1, -1) -/
noncomputable def SrcD (prog : Program) (w : World) (A : Around) (h₀ : Heap) (L : Addr) (m : Str → Option Value) (env : Env) (elt : Expr) (x : Str) (scope : Scope) (cl : List (Str × Addr)) (Fin : Shared → List Value → List (Addr × Obj) → Prop) (xv : Value) (s₁ : Shared) : Prop :=
  ∃ r t u v news, xv = .ref r ∧ A.handled = none ∧ Fr h₀ L s₁.heap m ∧ News h₀ L s₁.heap news ∧ IsRange s₁.heap r 5 (-1) (-1) t u v ∧
    ∀ s₂ : Shared, (∃ h, s₂ = { s₁ with heap := h }) → CompRest prog w A h₀ L m env elt x scope cl s₂ (fun _ => True) (fun i v => ∃ t, v = .int (5 - (i : Int)) t) (Fin s₂) 6 0 [] news
theorem ListComp_D {elt iter : Expr} {x : Str} {px : Pos} {scope : Scope} {cl : List (Str × Addr)} {pos : Pos} {Q : Value → Shared → Prop} (_F₀ : Fr h₀ L s.heap m)
    (hclos : closureFor scope env = pure cl) (hcell : ∀ y ∈ scope.names, y.2 ≠ .cell) (hkind : scope.kind = .function)
    (hnames : ∀ y ∈ scope.names, y.2 = .local → scope.names.lookup y.1 = some .local) (hx : scope.names.lookup x = some .local)
    (h : wpAny (model prog w) A (eval iter env) (SrcD prog w A h₀ L m env elt x scope cl (fun s₂ => FinE h₀ L m s₂ Q)) E s)
    (hs : ∀ x, foldedSetIterable iter env x = pure x := by intro _; rfl) :
    wpAny (model prog w) A (eval (.ListComp elt [⟨.Name x px, iter, [], 0⟩] scope pos) env) Q E s := by
  rw [eval_ListComp]
  refine wpAny_comprehension_free (use := none) rfl hs hclos hkind hnames (wpAny_mono h (fun xv s₁ h₁ => ?_) fun _ _ e => e)
  obtain ⟨r, t, u, v, news, rfl, hh, F, N, hr, R⟩ := h₁
  refine wpAny_pyIter_range hr (by decide) ?_
  refine block_U (down_walks hh 5 6) (by rw [sizeLine_eq]; decide) (fun i h st => ⟨_, st⟩) (fun i h h' o nw st e e' _ _ _ => ?_) hcell hkind hx (Heap.get?_push_size _ rfl) (fun b hb => ?_)
      (F.keeps fun _ _ e => Heap.get?_push_of_some _ e) (N.grown fun _ _ e => Heap.get?_push_of_some _ e) (Nat.ne_of_lt F.ns.lt) (next_is_new F) (fun p hp => Nat.ne_of_lt (Heap.lt_size (N p hp).1)) trivial (R _ ⟨_, rfl⟩) ?_
  · have st' : h.get? s₁.heap.objs.size = some _ := st
    show h'.get? s₁.heap.objs.size = some _
    rw [e', ← e]; exact st'
  · rw [List.mem_singleton.mp hb]
    show s₁.heap.objs.size < (s₁.heap.push _).objs.size
    rw [Heap.size_push]; exact Nat.lt_succ_self _
  · intro D C h tk m' ys news' F' N' o1 hn hC₀ hD₀ hCL hDL hCD offC fin
    refine ⟨m', hn, fun h'' hs'' => fin D h'' tk (F'.change hs'' hCL hC₀) (fun p hp => ?_) o1⟩
    refine ⟨hs''.extBut _ _ ?_ (N' p hp).1, (N' p hp).2⟩
    rcases List.mem_cons.mp hp with rfl | hp
    · exact Ne.symm hCD
    · exact offC p hp
end
theorem range_small {n : Nat} (h : n ≤ 1000) : Builtin.Range.small 0 (n : Int) 1 = true ∧ Builtin.Range.rangeSize 0 (n : Int) 1 = (n : Int) := by
  have e : Builtin.Range.rangeSize 0 (n : Int) 1 = (n : Int) := by
    unfold Builtin.Range.rangeSize
    rw [if_pos (by decide)]
    split <;> omega
  exact ⟨small_one (by omega) (by omega) (by omega) (by omega), e⟩
theorem ints_snoc {n : Int} {t : Tok} : ∀ {vs : List Value} {ns : List Int}, IntsAre vs ns → IntsAre (vs ++ [.int n t]) (ns ++ [n])
  | _, _, .nil => .cons n t .nil
  | _, _, .cons k u h => .cons k u (ints_snoc h)
theorem range_snoc {α : Type} (f : Nat → α) (i : Nat) : (List.range (i + 1)).map f = (List.range i).map f ++ [f i] := by
  rw [List.range_succ, List.map_append]; rfl
section
variable {prog : Program} {w : World} {A : Around} {E : Value → Shared → Prop} {s : Shared} {a b : Int} {t u : Tok}
theorem fdiv_K {Q : Value → Shared → Prop} (hb : 0 < b) (hb2 : b < 2 ^ 100) (h : ∀ k k', Q (.int (a / b) k) { s with toks := k' }) :
    wpAny (model prog w) A (binaryOp .FloorDiv (.int a t) (.int b u)) Q E s := by
  refine floordiv_int (by omega) ?_ (Or.inl (PyProof.noPylong_of_log2 ?_))
  · rw [Int.fdiv_eq_ediv_of_nonneg a (by omega)]
    exact h _ _
  · have h1 : b.natAbs < 2 ^ 100 := by omega
    have h2 : b.natAbs.log2 < 100 := (Nat.log2_lt (by omega)).mpr h1
    omega
theorem fmod_K {Q : Value → Shared → Prop} (hb : 0 < b) (h : ∀ k k', Q (.int (a % b) k) { s with toks := k' }) :
    wpAny (model prog w) A (binaryOp .Mod (.int a t) (.int b u)) Q E s := by
  refine mod_int (by omega) ?_
  rw [Int.fmod_eq_emod_of_nonneg a (by omega)]
  exact h _ _
theorem pow_K {n : Int} {Q : Value → Shared → Prop} (hn : 0 ≤ n) (hn2 : n ≤ 12) (ha : 0 < a) (ha2 : a ≤ 256) (h : ∀ k k', 0 < a ^ n.toNat → a ^ n.toNat < 2 ^ 100 → Q (.int (a ^ n.toNat) k) { s with toks := k' }) :
    wpAny (model prog w) A (binaryOp .Pow (.int a t) (.int n u)) Q E s := by
  have hbits : (Builtin.Int.intBits a : Int) ≤ 9 := by
    have hall : ∀ k : Fin 257, Builtin.Int.intBits (k.1 : Int) ≤ 9 := by decide +kernel
    have e : a = ((a.toNat : Nat) : Int) := by omega
    have h9 : Builtin.Int.intBits ((a.toNat : Nat) : Int) ≤ 9 := hall ⟨a.toNat, by omega⟩
    rw [e]; exact_mod_cast h9
  have hpos : 0 < a ^ n.toNat := Int.pow_pos ha
  have hlt : a ^ n.toNat < 2 ^ 100 := by
    have h1 : a ^ n.toNat ≤ 256 ^ n.toNat := by
      have e : a = ((a.toNat : Nat) : Int) := by omega
      rw [e]
      have : a.toNat ^ n.toNat ≤ 256 ^ n.toNat := Nat.pow_le_pow_left (by omega) _
      exact_mod_cast this
    have h2 : (256 : Int) ^ n.toNat ≤ 256 ^ 12 := by
      have : (256 : Nat) ^ n.toNat ≤ 256 ^ 12 := Nat.pow_le_pow_right (by decide) (by omega)
      exact_mod_cast this
    exact Int.lt_of_le_of_lt (Int.le_trans h1 h2) (by decide)
  refine pow_int hn ?_ (h _ _ hpos hlt)
  have h1 : (Builtin.Int.intBits a : Int) * n ≤ 9 * 12 := Int.mul_le_mul hbits hn2 hn (by decide)
  exact Int.le_trans h1 (by decide)
end
end Mine
end
section
open PySem PySem.W PyProof.Rows PySem.Calls
set_option Elab.async false
set_option maxRecDepth 100000
set_option maxHeartbeats 4000000
namespace Mine
/-- a list of ints with their tokens -/
noncomputable abbrev IT := Int × Tok
noncomputable def iv (p : IT) : Value := .int p.1 p.2
noncomputable def ivs (l : List IT) : List Value := l.map iv
noncomputable abbrev ilist (l : List IT) (n : Nat) : Obj := listOf (ivs l).toArray n
theorem ivs_length (l : List IT) : (ivs l).length = l.length := by simp [ivs]
theorem ivs_ints : ∀ l : List IT, IntsAre (ivs l) (l.map (·.1))
  | [] => .nil
  | p :: r => .cons p.1 p.2 (ivs_ints r)
theorem ivs_get {l : List IT} {k : Nat} (h : k < l.length) : (ivs l)[k]? = some (iv (l.getD k (0, 0))) := by
  simp [ivs, h]
theorem ivs_push (l : List IT) (p : IT) : (ivs l).toArray.push (iv p) = (ivs (l ++ [p])).toArray := by
  simp [ivs]
theorem ints_ivs : ∀ {vs : List Value} {ns : List Int}, IntsAre vs ns → ∃ l : List IT, vs = ivs l ∧ l.map (·.1) = ns
  | _, _, .nil => ⟨[], rfl, rfl⟩
  | _, _, .cons k t h => by
    obtain ⟨l, rfl, rfl⟩ := ints_ivs h
    exact ⟨(k, t) :: l, rfl, rfl⟩
section
variable {prog : Program} {w : World} {A : Around} {E : Value → Shared → Prop} {s : Shared} {h₀ : Heap} {L D : Addr} {m : Str → Option Value} {news news' : List (Addr × Obj)} {l : List IT} {n : Nat} {k : Int} {t u : Tok}
theorem i_isList (N : News h₀ L s.heap news) (hm : (D, ilist l n) ∈ news) : s.heap.IsList D (ivs l).toArray := ⟨ilist l n, (N _ hm).1, rfl, n, rfl⟩
theorem i_append {x : Int} {Q : Value → Shared → Prop} (F : Fr h₀ L s.heap m) (N : News h₀ L s.heap news) (U : Upd D (ilist l n) (ilist (l ++ [(x, u)]) (n + 1)) news news') (hz : l.length ≤ 1000)
    (h : ∀ h', Fr h₀ L h' m → News h₀ L h' news' → Q .none { s with heap := h' }) :
    wpAny (model prog w) A (call (.builtin "list.append") [.ref D, .int x u]) Q E s := by
  refine append_K F N (its := (ivs l).toArray) (n := n) ?_ h ?_
  · show Upd D _ (listOf ((ivs l).toArray.push (iv (x, u))) _) _ _
    rw [ivs_push]; exact U
  · rw [List.size_toArray, ivs_length, sizeLine_eq]; omega
theorem i_sub {value slice : PySem.Expr} {Q : Value → Shared → Prop} (N : News h₀ L s.heap news) (hm : (D, ilist l n) ∈ news) (h0 : 0 ≤ k) (h1 : k < l.length) (hfit : k < 2 ^ 63) (h : Q (.int (l.getD k.toNat (0, 0)).1 (l.getD k.toNat (0, 0)).2) s)
    (hs : subscripted slice false (.ref D) (.int k u) = operate [.ref D, .int k u] (getItem (.ref D) (.int k u)) := by with_unfolding_all rfl) (hg : ∀ r, letTemporaryGo value (.ref D) r = pure () := by intro _; with_unfolding_all rfl) :
    wpAny (model prog w) A (subscriptTail value slice (.ref D) (.int k u)) Q E s :=
  kim_list N hm rfl rfl h0 hfit (ivs_get (by omega)) h hs hg
theorem i_len {Q : Value → Shared → Prop} (N : News h₀ L s.heap news) (hm : (D, ilist l n) ∈ news) (hl : l.length ≤ 1000) (h : ∀ k k', Q (.int (l.length : Int) k) { s with toks := k' }) :
    wpAny (model prog w) A (call (.builtin "len") [.ref D]) Q E s := by
  have hs : (ivs l).toArray.size = l.length := by rw [List.size_toArray]; exact ivs_length l
  refine len_list (i_isList N hm) (by rw [hs]; omega) ?_
  rw [hs]; exact h _ _
theorem i_bytes {Q : Value → Shared → Prop} (F : Fr h₀ L s.heap m) (N : News h₀ L s.heap news) (hm : (D, ilist l n) ∈ news) (hh : A.handled = none) (hr : ∀ x ∈ l.map (·.1), 0 ≤ x ∧ x < 256) (hl : l.length ≤ 1000)
    (h : ∀ h' t' k, Fr h₀ L h' m → News h₀ L h' news → Q (.bytes (byteArr (l.map (·.1))) t') { s with heap := h', toks := k }) : wpAny (model prog w) A (call (.type "bytes") [.ref D]) Q E s :=
  KBa.make_K F N hh (i_isList N hm) (ivs_ints l) hr (by rw [List.length_map]; omega) fun h' t' k F' N' _ => h h' t' k F' N'
end
theorem and_low (a b k : Nat) (h : b < 2 ^ k) : (2 ^ k * a) &&& b = 0 := by
  have e1 : b = b &&& (2 ^ k - 1) := by rw [Nat.and_two_pow_sub_one_eq_mod, Nat.mod_eq_of_lt h]
  rw [e1, Nat.and_comm b, ← Nat.and_assoc, Nat.and_two_pow_sub_one_eq_mod, Nat.mul_mod_right, Nat.zero_and]
theorem bitOr_low {a b : Int} (k : Nat) (ha : 0 ≤ a) (hb : 0 ≤ b) (hb2 : b < 2 ^ k) : Builtin.bitOr (a * 2 ^ k) b = a * 2 ^ k + b := by
  have hand : Builtin.bitAnd (a * 2 ^ k) b = 0 := by
    have e0 : a = ((a.toNat : Nat) : Int) := by omega
    have e1 : a * 2 ^ k = ((2 ^ k * a.toNat : Nat) : Int) := by
      rw [Int.natCast_mul, ← e0, kbt_cast, Int.mul_comm]
    have e2 : b = ((b.toNat : Nat) : Int) := by omega
    have hlt : b.toNat < 2 ^ k := by
      have : ((b.toNat : Nat) : Int) < ((2 ^ k : Nat) : Int) := by rw [← e2, kbt_cast]; exact hb2
      exact_mod_cast this
    rw [e1, bitAnd_pp (Int.natCast_nonneg _) hb, Int.toNat_natCast, and_low _ _ _ hlt]
    rfl
  rw [bitOr_and, hand]; omega
section
variable {prog : Program} {w : World} {A : Around} {E : Value → Shared → Prop} {s : Shared} {a b : Int} {t u : Tok}
theorem shl_K {n : Int} (q : Int) {Q : Value → Shared → Prop} (hq : (2 : Int) ^ n.toNat = q) (hn : 0 ≤ n) (hn2 : n ≤ 100) (ha : 0 ≤ a) (ha2 : a < 2 ^ 20) (h : ∀ k k', Q (.int (a * q) k) { s with toks := k' }) :
    wpAny (model prog w) A (binaryOp .LShift (.int a t) (.int n u)) Q E s := by
  refine lshift_int hn ?_ ?_
  · have := intBits_le_64 (k := a) (by omega) (by omega)
    omega
  · rw [hq]; exact h _ _
theorem shr_K {n : Int} {Q : Value → Shared → Prop} (hn : 0 ≤ n) (h : ∀ k k', Q (.int (a / 2 ^ n.toNat) k) { s with toks := k' }) :
    wpAny (model prog w) A (binaryOp .RShift (.int a t) (.int n u)) Q E s := by
  refine rshift_int hn ?_
  rw [Int.fdiv_eq_ediv_of_nonneg a (Int.le_of_lt (Int.pow_pos (by decide)))]
  exact h _ _
theorem shr_q {n : Int} (q : Int) {Q : Value → Shared → Prop} (hq : (2 : Int) ^ n.toNat = q) (hn : 0 ≤ n) (h : ∀ k k', Q (.int (a / q) k) { s with toks := k' }) :
    wpAny (model prog w) A (binaryOp .RShift (.int a t) (.int n u)) Q E s := by
  subst hq
  exact shr_K hn h
theorem mask_K (k : Nat) {c : Int} {Q : Value → Shared → Prop} (hc : c = 2 ^ k - 1) (h : ∀ k1 k', Q (.int (a % 2 ^ k) k1) { s with toks := k' }) :
    wpAny (model prog w) A (binaryOp .BitAnd (.int a t) (.int c u)) Q E s := by
  subst hc
  refine and_int ?_
  rw [kbt_mask]
  exact h _ _
theorem mask_q (k : Nat) {c : Int} (q : Int) {Q : Value → Shared → Prop} (hc : c = 2 ^ k - 1) (hq : (2 : Int) ^ k = q) (h : ∀ k1 k', Q (.int (a % q) k1) { s with toks := k' }) :
    wpAny (model prog w) A (binaryOp .BitAnd (.int a t) (.int c u)) Q E s := by
  subst hq
  exact mask_K k hc h
theorem or_K (k : Nat) {q : Int} {Q : Value → Shared → Prop} (hq : (2 : Int) ^ k = q) (ha : 0 ≤ a) (hb : 0 ≤ b) (hb2 : b < q) (h : ∀ k1 k', Q (.int (a * q + b) k1) { s with toks := k' }) :
    wpAny (model prog w) A (binaryOp .BitOr (.int (a * q) t) (.int b u)) Q E s := by
  subst hq
  refine or_int ?_
  rw [bitOr_low k ha hb hb2]
  exact h _ _
end
/-- a contract of a call with keywords -/
noncomputable def CtrK (lv : Nat) (w : World) (f : Addr) (vs : List Value) (kw : List (Str × Value)) (news : List (Addr × Obj)) (Post : Value → List (Addr × Obj) → Prop) : Prop :=
  ∀ (dp un : Nat) (gd : Option (List Code)) (cn : Str) (cs : Scope) (a : Addr) (ccd : Value) (cl : List (Str × Addr)) (outer : List Env) (A₀ : Around) (base h₀ : Heap) (L : Addr) (m : Str → Option Value)
    (p : Program) (loose : List Str) (mean : ExcName → Option Value) (mg mb : Str → Option Value) (s : Shared) (Q E : Value → Shared → Prop),
    Below A₀ base outer h₀ → Fr h₀ L s.heap m → (hd.heap_39 w.params).In h₀ → News h₀ L s.heap news → Top p loose mean mg mb h₀ → cs.kind = .function →
    dp + lv < recursionLimit → un + 10 * lv < cLine →
    (∀ r h' tk' news', Post r news' → Fr h₀ L h' m → News h₀ L h' news' → Q r { s with heap := h', toks := tk' }) →
    wpAny (model PySem.Challenge.rw_oy0068_01.row.prog w) (ktrTop dp un gd cn cs L a ccd cl outer) (call (.ref f) vs kw) Q E s
theorem CtrK.use {lv : Nat} {w : World} {f : Addr} {vs : List Value} {kw : List (Str × Value)} {news : List (Addr × Obj)} {Post : Value → List (Addr × Obj) → Prop} (C : CtrK lv w f vs kw news Post)
    {dp un : Nat} {gd : Option (List Code)} {cn : Str} {cs : Scope} {a : Addr} {ccd : Value} {cl : List (Str × Addr)} {outer : List Env} {A₀ : Around} {base h₀ : Heap} {L : Addr} {m : Str → Option Value}
    {p : Program} {loose : List Str} {mean : ExcName → Option Value} {mg mb : Str → Option Value} {s : Shared} {Q E : Value → Shared → Prop}
    (B : Below A₀ base outer h₀) (F : Fr h₀ L s.heap m) (X : (hd.heap_39 w.params).In h₀) (N : News h₀ L s.heap news) (T : Top p loose mean mg mb h₀) (hk : cs.kind = .function)
    (hdp : dp + lv < recursionLimit) (hun : un + 10 * lv < cLine)
    (ret : ∀ r h' tk' news', Post r news' → Fr h₀ L h' m → News h₀ L h' news' → Q r { s with heap := h', toks := tk' }) :
    wpAny (model PySem.Challenge.rw_oy0068_01.row.prog w) (ktrTop dp un gd cn cs L a ccd cl outer) (call (.ref f) vs kw) Q E s :=
  C dp un gd cn cs a ccd cl outer A₀ base h₀ L m p loose mean mg mb s Q E B F X N T hk hdp hun ret
end Mine
end
section
open PySem PySem.W PyProof.Rows PySem.Calls
set_option Elab.async false
set_option maxRecDepth 100000
set_option maxHeartbeats 4000000
namespace Mine
theorem allLt_mem {d : Nat} : ∀ {l : List (Addr × Obj)}, AllLt d l → ∀ p ∈ l, p.1 < d
  | [], _, _, h => nomatch h
  | q :: r, x, p, h => by
    rcases List.mem_cons.mp h with rfl | h
    · exact x.1
    · exact allLt_mem x.2 p h
theorem filter_take {p : Int → Bool} {es : List Int} {j : Nat} (hj : j < es.length) : (es.take (j + 1)).filter p = (es.take j).filter p ++ (if p (es.getD j 0) then [es.getD j 0] else []) := by
  have e : es[j]? = some (es.getD j 0) := by simp [hj]
  rw [List.take_add_one, e, List.filter_append]
  congr 1
  simp only [Option.toList, List.filter_cons, List.filter_nil]
theorem map_getD (l : List IT) (j : Nat) : (l.map (·.1)).getD j 0 = (l.getD j (0, 0)).1 := by
  by_cases h : j < l.length
  · simp [h]
  · have h' : l.length ≤ j := Nat.not_lt.mp h
    simp [List.getElem?_eq_none h']
theorem lst_ivs (ls : List IT) : LCg.lst (ivs ls) = ilist ls ls.length := by
  show ({ cls := .type "list", data := .seq (ivs ls).toArray (ivs ls).length } : Obj) = _
  rw [ivs_length]
noncomputable abbrev riAt (n i : Nat) : Obj := { cls := .type "range_iterator", dict := none, data := .fields #[rawInt ((i : Nat) : Int), rawInt ((n : Int) - (i : Nat)), rawInt 1], slots := #[] }
section
variable {prog : Program} {w : World} {A : Around} {E : Value → Shared → Prop} {Q : Flow → Shared → Prop} {s : Shared} {env : Env} {h₀ : Heap}
/-- the end of a turn of a for over range(n) -/
noncomputable def ForEnd (h₀ : Heap) (L : Addr) (s : Shared) (n I : Nat) (J : Nat → (Str → Option Value) → List (Addr × Obj) → Prop) (Q : Flow → Shared → Prop) (i : Nat) (f : Flow) (s₃ : Shared) : Prop :=
  match f with
  | .ret v => Q (.ret v) s₃
  | .brk => Q .next s₃
  | _ => ∃ h' tk' m' news', s₃ = { s with heap := h', toks := tk' } ∧ Fr h₀ L h' m' ∧ News h₀ L h' ((I, riAt n (i + 1)) :: news') ∧ (∀ p ∈ news', p.1 ≠ I) ∧ J (i + 1) m' news'
theorem forC {r : Addr} {n : Nat} {t u v : Tok} {x : Str} {px : Pos} {body : List Stmt} {m₀ : Str → Option Value} {news₀ : List (Addr × Obj)} (J : Nat → (Str → Option Value) → List (Addr × Obj) → Prop)
    (hh : A.handled = none) (hr : IsRange s.heap r 0 (n : Int) 1 t u v) (hn : n ≤ 1000) (F : Fr h₀ env.locals s.heap m₀) (N : News h₀ env.locals s.heap news₀) (hJ : J 0 m₀ news₀)
    (turn : ∀ (i I : Nat) (t : Tok) (m : Str → Option Value) (news : List (Addr × Obj)) (h : Heap) (tk : Nat), i < n → J i m news → (∀ p ∈ news, p.1 ≠ I) → Fr h₀ env.locals h m → News h₀ env.locals h ((I, riAt n (i + 1)) :: news) →
      wpAny (model prog w) A (storeName env x (.int (i : Int) t)) (fun _ s₂ => wpAny (model prog w) A (execs body env) (ForEnd h₀ env.locals s n I J Q i) E s₂) E { s with heap := h, toks := tk })
    (done : ∀ m news h tk, J n m news → Fr h₀ env.locals h m → News h₀ env.locals h news → Q .next { s with heap := h, toks := tk })
    (hE : PassesOwn (model prog w) A env E := by passes_own) :
    wpAny (model prog w) A (pyIter (.ref r)) (fun it s₂ => codeAny (model prog w) A (.forLoop (.Name x px) it body [] env) (fun r s' => match r with | .ok f => Q f s' | .error e => cameBackBy (model prog w) A env E e s') s₂) E s := by
  obtain ⟨hsm, hsz⟩ := range_small hn
  refine wpAny_pyIter_range hr hsm ?_
  have hI0 : h₀.get? s.heap.objs.size = none := next_is_new F
  have hIL : s.heap.objs.size ≠ env.locals := Nat.ne_of_gt F.ns.lt
  refine codeAny_forLoop (fun k s' => ∃ h' tk m' news' i, s' = { s with heap := h', toks := tk } ∧ Fr h₀ env.locals h' m' ∧ News h₀ env.locals h' ((s.heap.objs.size, riAt n i) :: news') ∧ (∀ p ∈ news', p.1 ≠ s.heap.objs.size) ∧ J i m' news' ∧ i ≤ n ∧ k = n + 1 - i) ?_ (n + 1)
    ⟨_, s.toks, m₀, news₀, 0, rfl, F.push _, ?_, fun p hp => Nat.ne_of_lt (Heap.lt_size (N p hp).1), hJ, Nat.zero_le _, rfl⟩
  · rintro k s' ⟨h', tk, m', news', i, rfl, F', N', hoff, hJ', hi, rfl⟩
    have hit : IsRangeIter h' s.heap.objs.size ((i : Nat) : Int) ((n : Int) - (i : Nat)) 1 := (N' _ (.head _)).1
    by_cases hlt : i < n
    · refine wpAny_pyNext_range_item hit (by omega) fun h₁ hit₁ hs₁ => ?_
      have e1 : ((i : Nat) : Int) + 1 = ((i + 1 : Nat) : Int) := by omega
      have e2 : (n : Int) - (i : Nat) - 1 = (n : Int) - ((i + 1 : Nat) : Int) := by omega
      rw [e1, e2] at hit₁
      have F₁ : Fr h₀ env.locals h₁ m' := F'.change hs₁ hIL hI0
      have N₁ : News h₀ env.locals h₁ ((s.heap.objs.size, riAt n (i + 1)) :: news') := by
        intro p hp
        rcases List.mem_cons.mp hp with rfl | hp
        · exact ⟨hit₁, hIL, hI0⟩
        · have z := N' p (.tail _ hp)
          exact ⟨(hs₁.2 _ (hoff p hp)).trans z.1, z.2⟩
      refine wpAny_assign_Name (wpAny_mono (turn i s.heap.objs.size tk m' news' h₁ _ hlt hJ' hoff F₁ N₁) (fun _ s₂ h₂ => wpAny_mono h₂ (fun f s₃ h₃ => ?_) hE) hE)
      cases f with
      | ret v => exact h₃
      | brk => exact h₃
      | next =>
        obtain ⟨h₄, tk₄, m₄, news₄, rfl, F₄, N₄, off₄, J₄⟩ := h₃
        exact ⟨n + 1 - (i + 1), by omega, h₄, tk₄, m₄, news₄, i + 1, rfl, F₄, N₄, off₄, J₄, hlt, rfl⟩
      | cont =>
        obtain ⟨h₄, tk₄, m₄, news₄, rfl, F₄, N₄, off₄, J₄⟩ := h₃
        exact ⟨n + 1 - (i + 1), by omega, h₄, tk₄, m₄, news₄, i + 1, rfl, F₄, N₄, off₄, J₄, hlt, rfl⟩
    · obtain rfl : i = n := by omega
      refine wpAny_pyNext_range_end hh hit (by omega) fun h₁ he₁ => wpAny_execs_nil ?_
      refine done m' news' h₁ _ hJ' ⟨F'.ns.at' fun o e => he₁ _ o (Ne.symm hIL) e, fun b o e => he₁ b o (fun q => by rw [q, hI0] at e; cases e) (F'.keep b o e), F'.above⟩ ?_
      intro p hp
      have z := N' p (.tail _ hp)
      exact ⟨he₁ _ _ (hoff p hp) z.1, z.2⟩
  · intro p hp
    rcases List.mem_cons.mp hp with rfl | hp
    · refine ⟨?_, hIL, hI0⟩
      have e0 : (n : Int) - ((0 : Nat) : Int) = (n : Int) := by omega
      have hX : ({ cls := .type "range_iterator", data := .fields #[rawInt 0, rawInt (Builtin.Range.rangeSize 0 (n : Int) 1), rawInt 1] } : Obj) = riAt n 0 := by
        unfold riAt
        rw [hsz, e0]
        rfl
      exact (Heap.get?_push_size _ rfl).trans (congrArg some hX)
    · exact ⟨Heap.get?_push_of_some _ (N p hp).1, (N p hp).2⟩
/-- the end of a turn, over a state -/
noncomputable def ForEndK {σ : Type} (h₀ : Heap) (L : Addr) (s : Shared) (n I : Nat) (Led : σ → List (Addr × Obj)) (ps : σ → List (Str × Value)) (stored : List Str) (m₀ : Str → Option Value) (P : Nat → σ → Prop) (i : Nat) (s₃ : Shared) : Prop :=
  ∃ (c' : σ) (h' : Heap) (tk' : Nat) (m' : Str → Option Value) (news' : List (Addr × Obj)), s₃ = { s with heap := h', toks := tk' } ∧ Fr h₀ L h' m' ∧ News h₀ L h' news' ∧ ((I, riAt n (i + 1)) ∈ news') ∧ (∀ p ∈ Led c', p ∈ news') ∧ (∀ p ∈ Led c', p.1 ≠ I) ∧
    (∀ p ∈ ps c', m' p.1 = some p.2) ∧ (∀ z, (∀ p ∈ ps c', z ≠ p.1) → stored.contains z = false → m' z = m₀ z) ∧ P (i + 1) c'
theorem forEndK {σ : Type} {L : Addr} {n I : Nat} {Led : σ → List (Addr × Obj)} {ps : σ → List (Str × Value)} {stored : List Str} {m₀ m' : Str → Option Value} {P : Nat → σ → Prop} {i : Nat} {h' : Heap} {tk' : Nat} {news' : List (Addr × Obj)} (c' : σ)
    (F : Fr h₀ L h' m') (N : News h₀ L h' news') (hI : (I, riAt n (i + 1)) ∈ news') (hn : ∀ p ∈ Led c', p ∈ news') (ho : ∀ p ∈ Led c', p.1 ≠ I) (hk : ∀ p ∈ ps c', m' p.1 = some p.2) (hr : ∀ z, (∀ p ∈ ps c', z ≠ p.1) → stored.contains z = false → m' z = m₀ z) (hp : P (i + 1) c') :
    ForEndK h₀ L s n I Led ps stored m₀ P i { s with heap := h', toks := tk' } := ⟨c', h', tk', m', news', rfl, F, N, hI, hn, ho, hk, hr, hp⟩
theorem forK {σ : Type} {r : Addr} {n : Nat} {t u v : Tok} {x : Str} {px : Pos} {body : List Stmt} {m₀ : Str → Option Value} (Led : σ → List (Addr × Obj)) (ps : σ → List (Str × Value)) (stored : List Str) (P : Nat → σ → Prop) (c₀ : σ)
    (hh : A.handled = none) (hr : IsRange s.heap r 0 (n : Int) 1 t u v) (hn : n ≤ 1000) (F : Fr h₀ env.locals s.heap m₀) (N : News h₀ env.locals s.heap (Led c₀)) (hk : ∀ p ∈ ps c₀, m₀ p.1 = some p.2) (hp : P 0 c₀)
    (turn : ∀ (c : σ) (i I : Nat) (t : Tok) (u : Str → Option Value) (h : Heap) (tk : Nat), i < n → P i c → (∀ p ∈ Led c, p.1 ≠ I) → Fr h₀ env.locals h (kstB (fun z => if stored.contains z then u z else m₀ z) (ps c)) → News h₀ env.locals h ((I, riAt n (i + 1)) :: Led c) →
      wpAny (model prog w) A (storeName env x (.int (i : Int) t)) (fun _ s₂ => wpAny (model prog w) A (execs body env) (fun f s₃ => match f with | .ret v => Q (.ret v) s₃ | .brk => Q .next s₃ | _ => ForEndK h₀ env.locals s n I Led ps stored m₀ P i s₃) E s₂) E { s with heap := h, toks := tk })
    (done : ∀ (c : σ) (u : Str → Option Value) (h : Heap) (tk : Nat), P n c → Fr h₀ env.locals h (kstB (fun z => if stored.contains z then u z else m₀ z) (ps c)) → News h₀ env.locals h (Led c) → Q .next { s with heap := h, toks := tk })
    (hE : PassesOwn (model prog w) A env E := by passes_own) :
    wpAny (model prog w) A (pyIter (.ref r)) (fun it s₂ => codeAny (model prog w) A (.forLoop (.Name x px) it body [] env) (fun r s' => match r with | .ok f => Q f s' | .error e => cameBackBy (model prog w) A env E e s') s₂) E s := by
  refine forC (fun i m nx => ∃ c : σ, nx = Led c ∧ (∀ p ∈ ps c, m p.1 = some p.2) ∧ (∀ z, (∀ p ∈ ps c, z ≠ p.1) → stored.contains z = false → m z = m₀ z) ∧ P i c) hh hr hn F N ⟨c₀, rfl, hk, fun _ _ _ => rfl, hp⟩ ?_ ?_ hE
  · rintro i I t m nx h tk hi ⟨c, rfl, h1, h2, hp'⟩ hoff F₁ N₁
    refine wpAny_mono (turn c i I t m h tk hi hp' hoff (ksw_fr h1 h2 F₁) N₁) (fun _ s₂ h₂ => wpAny_mono h₂ (fun f s₃ h₃ => ?_) fun _ _ e => e) fun _ _ e => e
    have up : ForEndK h₀ env.locals s n I Led ps stored m₀ P i s₃ → ∃ h' tk' m' news', s₃ = { s with heap := h', toks := tk' } ∧ Fr h₀ env.locals h' m' ∧ News h₀ env.locals h' ((I, riAt n (i + 1)) :: news') ∧ (∀ p ∈ news', p.1 ≠ I) ∧
        ∃ c : σ, news' = Led c ∧ (∀ p ∈ ps c, m' p.1 = some p.2) ∧ (∀ z, (∀ p ∈ ps c, z ≠ p.1) → stored.contains z = false → m' z = m₀ z) ∧ P (i + 1) c := by
      rintro ⟨c', h', tk', m', news', e, F', N', hI, hn', ho, hk', hr', hp'⟩
      refine ⟨h', tk', m', Led c', e, F', fun p hp => ?_, ho, c', rfl, hk', hr', hp'⟩
      rcases List.mem_cons.mp hp with rfl | hp
      · exact N' _ hI
      · exact N' _ (hn' p hp)
    cases f with
    | ret v => exact h₃
    | brk => exact h₃
    | next => exact up h₃
    | cont => exact up h₃
  · rintro m nx h tk ⟨c, rfl, h1, h2, hp'⟩ F₁ N₁
    exact done c m h tk hp' (ksw_fr h1 h2 F₁) N₁
end
end Mine
namespace Mine
section
variable {prog : Program} {w : World} {A : Around} {E : Value → Shared → Prop} {s : Shared} {value slice : PySem.Expr} {h₀ : Heap} {L D : Addr} {m : PySem.Str → Option Value} {news : List (Addr × Obj)} {l : List IT} {n : Nat} {Q : Value → Shared → Prop}
/-- xs[:k] -/
theorem i_cutTo {k : Int} {tk : Tok} (F : Fr h₀ L s.heap m) (N : News h₀ L s.heap news) (hm : (D, ilist l n) ∈ news) (h0 : 0 ≤ k) (hl : l.length ≤ 1000)
    (h : ∀ D' l2 h', l2.map (·.1) = (l.map (·.1)).take k.toNat → Fr h₀ L h' m → News h₀ L h' ((D', ilist l2 0) :: news) → (∀ p ∈ news, p.1 < D') → Q (.ref D') { s with heap := h' })
    (hs : subscripted slice false (.ref D) (.ref s.heap.objs.size) = operate [.ref s.heap.objs.size, .ref D] (getItem (.ref D) (.ref s.heap.objs.size)) := by with_unfolding_all rfl)
    (ht : ∀ r, letTemporaryGo value (.ref D) r = pure () := by intro _; with_unfolding_all rfl) :
    wpAny (model prog w) A (subscriptTail value slice (.ref D) (.ref s.heap.objs.size)) Q E { s with heap := s.heap.push { cls := .type "slice", data := .fields #[.none, .int k tk, .none] } } := by
  refine slice_list F N (i_isList N hm) .none (.int k tk) (fun h' F' N' => ?_) hs ht (by rw [List.size_toArray, ivs_length, sizeLine_eq]; omega)
  obtain ⟨l2, e1, e2⟩ := ints_ivs (kmk_upto (ivs_ints l) h0)
  refine h _ l2 h' e2 F' ?_ fun p hp => Nat.lt_succ_of_lt (Heap.lt_size (N p hp).1)
  have e3 : slicePick (ivs l).toArray none (some k) none = (ivs l2).toArray := by rw [← e1, Array.toArray_toList]
  rw [e3] at N'
  exact N'
end
end Mine
namespace Mine
section
variable {prog : Program} {w : World} {A : Around} {E : Value → Shared → Prop} {s : Shared} {value slice : PySem.Expr} {h₀ : Heap} {L D : Addr} {m : PySem.Str → Option Value} {news : List (Addr × Obj)} {l : List IT} {n : Nat} {Q : Value → Shared → Prop}
/-- xs[::-1] -/
theorem i_rev {tk : Tok} {ops : List Value} (F : Fr h₀ L s.heap m) (N : News h₀ L s.heap news) (hm : (D, ilist l n) ∈ news) (hl : l.length ≤ 1000)
    (h : ∀ D' h', Fr h₀ L h' m → News h₀ L h' ((D', ilist l.reverse 0) :: news) → (∀ p ∈ news, p.1 < D') → Q (.ref D') { s with heap := h' })
    (hs : subscripted slice false (.ref D) (.ref s.heap.objs.size) = operate ops (getItem (.ref D) (.ref s.heap.objs.size)) := by with_unfolding_all rfl)
    (ht : ∀ r, letTemporaryGo value (.ref D) r = pure () := by intro _; with_unfolding_all rfl) :
    wpAny (model prog w) A (subscriptTail value slice (.ref D) (.ref s.heap.objs.size)) Q E { s with heap := s.heap.push { cls := .type "slice", data := .fields #[.none, .none, .int (-1) tk] } } := by
  refine slice_list3 F N (i_isList N hm) .none .none (.int (-1) tk) (by decide) (fun h' F' N' => ?_) hs ht (by rw [List.size_toArray, ivs_length, sizeLine_eq]; omega)
  refine h _ h' F' ?_ fun p hp => Nat.lt_succ_of_lt (Heap.lt_size (N p hp).1)
  have e3 : slicePick (ivs l).toArray none none (some (-1)) = (ivs l.reverse).toArray := by rw [krv_pick]; simp [ivs]
  rw [e3] at N'
  exact N'
end
end Mine
end
section
open PySem PySem.W PyProof.Rows PySem.Calls
set_option Elab.async false
set_option maxRecDepth 100000
set_option rowWalk.seconds 0
set_option maxHeartbeats 4000000
set_option pp.deepTerms false
set_option pp.deepTerms.threshold 6
set_option pp.maxSteps 3000
namespace Mine
local macro_rules | `(tactic| k_all) => `(tactic| assumption)
local macro_rules | `(tactic| walk_at "compareOp Lt bytes bytes") => `(tactic| refine lt_bytes ?_)
local macro_rules | `(tactic| walk_at "subscriptTail") => `(tactic| (k_here; (with_reducible show wpAny _ _ (subscriptTail _ _ (Value.ref _) (Value.int _ _)) _ _ _); k_dflt (refine b_sub (by k_asm) (by k_mem) (by omega) (by first | omega | (simp <;> omega)) (by omega) ?_)))
local macro_rules | `(tactic| walk_at "setItem ref int") => `(tactic| (k_here; (with_reducible show wpAny _ _ (setItem _ _ (Value.bytes _ _)) _ _ _); k_dflt (refine b_set (by k_asm) (by k_asm) (by k_upd) (by omega) (by first | omega | (simp <;> omega)) (by omega) ?_); intro h' F' N'; (try k_sweep)))
local macro_rules | `(tactic| walk_at "binaryOp RShift int int") => `(tactic| refine shr1 (fun _ => ?_))
local macro_rules | `(tactic| walk_at "call builtin:len") => `(tactic| (k_here; (with_reducible show wpAny _ _ (call _ [Value.ref _]) _ _ _); k_dflt (refine b_len (by k_asm) (by k_mem) (by first | omega | (simp <;> omega)) ?_); intro _ _; (try dsimp only)))
local macro_rules | `(tactic| walk_at "truthy ref") => `(tactic| (k_here; (with_reducible show wpAny _ _ (truthy _) _ _ _); k_dflt (refine b_truthy (by k_asm) (by k_mem) (by first | omega | (simp <;> omega)) ?_); intro _; (try dsimp only)))
local macro_rules | `(tactic| walk_at "call ref") => `(tactic| (k_here; (with_reducible show wpAny _ _ (call (Value.ref _) _) _ _ _); k_dflt (refine Ctr.use' (ret := ?_)); intro r9 h' t9 n9 hP9 F' N'; obtain ⟨hr9, hn9⟩ := hP9; subst n9; (first | subst r9 | (obtain ⟨tv9, hr9⟩ := hr9; subst r9)); (try dsimp only); (try k_sweep)))
local macro_rules | `(tactic| ktr_room) => `(tactic| ((try simp only [depth_under_make, depth_under_kw, depth_in1, depth_deeper, depth_caller, recursionLimit] at *); (try dsimp only [ktrTop] at *); omega))
local macro_rules | `(tactic| ktr_units) => `(tactic| (have hcL9 := cLine_is; ((try simp only [units_in1, units_deeper, Around.mark_units, units_caller] at *); (try dsimp only [ktrTop] at *); omega)))
local macro_rules | `(tactic| ktr_rel) => `(tactic| (refine' code_defC ?k1 ?k2 ?k3 ?k4 ?k5 ?kA ?kF ?kK ?k6 ?k7 ?k8 ?k9 ?kB ?kD ?_ ?c2 ?c3 ?c4; (case kA => exact rfl); (case kF => exact rfl); (case kK => assumption); (case k1 => k_asm); (case k2 => k_asm); (case k3 => k_asm); (case k4 => k_asm); (case k5 => k_asm); (case k6 => k_is); (case k7 => k_is); (case k8 => ktr_room); (case k9 => exact BindsTo.of_eq rfl); (case kB => exact rfl); (case kD => decide +kernel); (case c2 => exact rfl); (case c3 => exact rfl); (case c4 => exact rfl); k_whole; intro g' L' h' tk' cells' FG' F' N' Y' B' X' T' l1; (try k_lt l1); k_cells Y'; (try simp only [List.cons_append, List.nil_append] at N'); (try dsimp only); (try k_lift B'); (try k_fold)))
local macro_rules | `(tactic| tb_rel) => `(tactic| (refine' code_def ?k1 ?k2 ?k3 ?k4 ?k5 ?kA ?kF ?kK ?k6 ?k7 ?k8 ?k9 ?kB ?_ ?c2 ?c3 ?c4 ?c5; (case kA => exact rfl); (case kF => exact rfl); (case kK => assumption); (case k1 => k_asm); (case k2 => k_asm); (case k3 => k_asm); (case k4 => k_asm); (case k5 => k_asm); (case k6 => k_is); (case k7 => k_is); (case k8 => ktr_room); (case k9 => first | exact BindsTo.of_eq rfl | exact binds_K (by k_in) rfl (by k_is) rfl rfl rfl | (refine' kp_binds ?kx ?ke; (case kx => k_in); (case ke => exact fun _ => rfl))); (case c5 => decide); (case kB => exact locs rfl); (case c2 => exact rfl); (case c3 => exact rfl); (case c4 => exact rfl); k_whole; intro g' L' h' FG' F' N' B' X' T'; (try dsimp only); (try k_lift B'); (try k_fold)))
local macro_rules | `(tactic| tb_start) => `(tactic| repeat' (first | (k_unfold; (try dsimp only)) | ((fail_if_success (with_reducible first | show wpAny _ _ (exec (Stmt.While _ _ _ _) _) _ _ _ | show KswEnd _ _ _ _ _ _ _ _ _ _ _ _ | show InvEndN _ _ _ _ _ _ _ | show LCg.CompEnd _ _ _ _ _ _ _ _ _ _ _ _ _ _ | show LCg.CompSrc _ _ _ _ _ _ _ _ _ _ _ _ _ _ | show SrcD _ _ _ _ _ _ _ _ _ _ _ _ _ _ | show wpAny _ _ (eval (Expr.ListComp _ _ _ _) _) _ _ _ | show wpAny _ _ (exec (Stmt.Assign _ (Expr.ListComp _ _ _ _) _) _) _ _ _ | show wpAny _ _ (pyIter _) _ _ _ | show ForEndK _ _ _ _ _ _ _ _ _ _ _ _ | show LCt.CompSrcT _ _ _ _ _ _ _ _ _ _ _ _ _ _ _)); first | (k_end; kc_close) | walk1 | (dsimp only; walk1) | (leave1; (try dsimp only)))))

noncomputable def sdGo (nw : BT) (sp : Nat) (l : List BT) (pos : Nat) : List BT :=
  if _h : sp < pos then
    if blt nw.1 (l.getD ((pos - 1) / 2) bnil).1 then sdGo nw sp (l.set pos (l.getD ((pos - 1) / 2) bnil)) ((pos - 1) / 2) else l.set pos nw
  else l.set pos nw
termination_by pos

theorem sd_call (w : World) (D : Addr) (l : List BT) (n sp pos : Nat) (t1 t2 : Tok) (rest : List (Addr × Obj)) (hne : ∀ p ∈ rest, p.1 ≠ D) (hp : pos < l.length) (hsp : sp ≤ pos) (hl : l.length ≤ 1000) :
    Ctr 2 w 49 [.ref D, .int sp t1, .int pos t2] ((D, blist l n) :: rest) (fun r nx => r = .none ∧ nx = (D, blist (sdGo (l.getD pos bnil) sp l pos) n) :: rest) := by
  unfold Ctr
  k_fill
  intro dp un gd cn cs a ccd cl outer A₀ base h₀ L m p loose mean mg mb s Q E B F X N T hk hdp hun hret
  refine wpAny_call ?_
  k_dflt cell_enter
  tb_start
  rename Fr _ _ _ _ => lF
  rename News _ _ _ _ => lN
  refine' ksw_while (σ := List BT × Nat × Tok) (fun c => (D, blist c.1 n) :: rest) (fun c => [(Str.ofString "pos", .int (c.2.1 : Int) c.2.2)]) (fun _ => True) [Str.ofString "parentpos", Str.ofString "parent"]
    (fun c => c.2.1 < c.1.length ∧ c.1.length = l.length ∧ sdGo (l.getD pos bnil) sp c.1 c.2.1 = sdGo (l.getD pos bnil) sp l pos) (fun c => c.2.1) (l, pos, t2) ?kF ?kN ?kf ?kk ?kp ?kt ?kE
  case kF => exact lF
  case kN => exact lN
  case kf => trivial
  case kp => exact ⟨hp, rfl, rfl⟩
  case kE => passes_own
  case kk =>
    intro q hq
    simp only [List.mem_singleton] at hq
    subst hq
    with_unfolding_all rfl
  case kt =>
    intro c u h tk _ hP F1 N1
    clear lF lN
    obtain ⟨l1, p1, tp⟩ := c
    obtain ⟨hp1, hl1, hgo⟩ := hP
    dsimp only [kstB] at *
    try k_fold
    tb_start
    · rename Fr _ _ _ _ => eF
      rename News _ _ _ _ => eN
      rename blt _ _ = true => hb
      have e3 : ((p1 : Int) - 1) / 2 = (((p1 - 1) / 2 : Nat) : Int) := by omega
      rw [e3] at eF eN hb
      simp only [Int.toNat_natCast] at eN eF hb
      refine ksw_end (l1.set p1 (l1.getD ((p1 - 1) / 2) bnil), (p1 - 1) / 2, _) eF eN (fun q hq => hq) trivial (by kst_all) (by ksw_same) ⟨?_, ?_, ?_⟩ ?_
      · simp only [List.length_set]; omega
      · simp only [List.length_set]; omega
      · rw [← hgo]
        conv => rhs; rw [sdGo]
        rw [dif_pos (by omega), if_pos hb]
      · show (p1 - 1) / 2 < p1
        omega
    · rename Fr _ _ _ _ => eF
      rename News _ _ _ _ => eN
      rename blt _ _ = false => hb
      have e3 : ((p1 : Int) - 1) / 2 = (((p1 - 1) / 2 : Nat) : Int) := by omega
      rw [e3] at hb
      simp only [Int.toNat_natCast] at eN hb
      refine hret _ _ _ _ ⟨rfl, ?_⟩ eF eN
      rw [← hgo]
      conv => rhs; rw [sdGo]
      rw [dif_pos (by omega), if_neg (by rw [hb]; decide)]
    · rename Fr _ _ _ _ => eF
      rename News _ _ _ _ => eN
      simp only [Int.toNat_natCast] at eN
      refine hret _ _ _ _ ⟨rfl, ?_⟩ eF eN
      rw [← hgo]
      conv => rhs; rw [sdGo]
      rw [dif_neg (by omega)]
theorem sd_callI {w : World} {D : Addr} {l : List BT} {n : Nat} {xs xp : Int} {t1 t2 : Tok} {news news' : List (Addr × Obj)} (h0 : 0 ≤ xs) (h1 : xs ≤ xp) (hp : xp < l.length) (hl : l.length ≤ 1000)
    (U : Upd D (blist l n) (blist (sdGo (l.getD xp.toNat bnil) xs.toNat l xp.toNat) n) news news') :
    Ctr 2 w 49 [.ref D, .int xs t1, .int xp t2] news (fun r nx => r = .none ∧ nx = news') := by
  refine Ctr.upd U fun rest hne => ?_
  have e1 : xs = (xs.toNat : Int) := by omega
  have e2 : xp = (xp.toNat : Int) := by omega
  have := sd_call w D l n xs.toNat xp.toNat t1 t2 rest hne (by omega) (by omega) hl
  rw [← e1, ← e2] at this
  exact this
local macro_rules | `(tactic| ktr_unf) => `(tactic| (refine sd_callI ?_ ?_ ?_ ?_ (by k_upd) <;> first | omega | (simp <;> omega)))

noncomputable def suPick (l : List BT) (c : Nat) : Nat :=
  if c + 1 < l.length then (if blt (l.getD c bnil).1 (l.getD (c + 1) bnil).1 then c else c + 1) else c
theorem suPick_le (l : List BT) (c : Nat) : c ≤ suPick l c := by
  unfold suPick; split
  · split <;> omega
  · omega
theorem suPick_lt {l : List BT} {c : Nat} (h : c < l.length) : suPick l c < l.length := by
  unfold suPick; split
  · split <;> omega
  · omega
noncomputable def suGo (l : List BT) (pos : Nat) : List BT × Nat :=
  if _h : 2 * pos + 1 < l.length then suGo (l.set pos (l.getD (suPick l (2 * pos + 1)) bnil)) (suPick l (2 * pos + 1)) else (l, pos)
termination_by l.length - pos
decreasing_by
  have := suPick_le l (2 * pos + 1)
  have := suPick_lt (l := l) (c := 2 * pos + 1) _h
  simp only [List.length_set]
  omega
noncomputable def siftup (l : List BT) (pos : Nat) : List BT :=
  sdGo (l.getD pos bnil) pos ((suGo l pos).1.set (suGo l pos).2 (l.getD pos bnil)) (suGo l pos).2

theorem su_call (w : World) (D : Addr) (l : List BT) (n pos : Nat) (t2 : Tok) (rest : List (Addr × Obj)) (hne : ∀ p ∈ rest, p.1 ≠ D) (hp : pos < l.length) (hl : l.length ≤ 1000) :
    Ctr 4 w 56 [.ref D, .int pos t2] ((D, blist l n) :: rest) (fun r nx => r = .none ∧ nx = (D, blist (siftup l pos) n) :: rest) := by
  unfold Ctr
  k_fill
  intro dp un gd cn cs a ccd cl outer A₀ base h₀ L m p loose mean mg mb s Q E B F X N T hk hdp hun hret
  refine wpAny_call ?_
  k_dflt cell_enter
  tb_start
  rename Fr _ _ _ _ => lF
  rename News _ _ _ _ => lN
  refine' ksw_while (σ := List BT × Nat × Tok × Tok) (fun c => (D, blist c.1 n) :: rest) (fun c => [(Str.ofString "pos", .int (c.2.1 : Int) c.2.2.1), (Str.ofString "childpos", .int (2 * (c.2.1 : Int) + 1) c.2.2.2)]) (fun _ => True) [Str.ofString "rightpos"]
    (fun c => pos ≤ c.2.1 ∧ c.2.1 < c.1.length ∧ c.1.length = l.length ∧ suGo c.1 c.2.1 = suGo l pos) (fun c => l.length - c.2.1) (l, pos, t2, _) ?kF ?kN ?kf ?kk ?kp ?kt ?kE
  case kF => exact lF
  case kN => exact lN
  case kf => trivial
  case kp => exact ⟨Nat.le_refl _, hp, rfl, rfl⟩
  case kE => passes_own
  case kk => kst_all
  case kt =>
    intro c u h tk _ hP F1 N1
    clear lF lN
    obtain ⟨l1, p1, tp, tc⟩ := c
    obtain ⟨hq1, hp1, hl1, hgo⟩ := hP
    dsimp only [kstB] at *
    try k_fold
    tb_start
    · rename Fr _ _ _ _ => eF
      rename News _ _ _ _ => eN
      rename blt _ _ = true => hb
      have e4 : 2 * (p1 : Int) + 1 + 1 = ((2 * p1 + 1 + 1 : Nat) : Int) := by omega
      have e3 : 2 * (p1 : Int) + 1 = ((2 * p1 + 1 : Nat) : Int) := by omega
      rw [e4, e3] at hb
      rw [e3] at eF eN
      simp only [Int.toNat_natCast] at eN eF hb
      have hpk : suPick l1 (2 * p1 + 1) = 2 * p1 + 1 := by
        unfold suPick; rw [if_pos (by omega), if_pos hb]
      refine ksw_end (l1.set p1 (l1.getD (2 * p1 + 1) bnil), 2 * p1 + 1, _, _) eF eN (fun q hq => hq) trivial (by kst_all) (by ksw_same) ⟨?_, ?_, ?_, ?_⟩ ?_
      · show pos ≤ 2 * p1 + 1
        omega
      · simp only [List.length_set]; omega
      · simp only [List.length_set]; omega
      · rw [← hgo]
        conv => rhs; rw [suGo]
        rw [dif_pos (by omega), hpk]
      · show l.length - (2 * p1 + 1) < l.length - p1
        omega
    · rename Fr _ _ _ _ => eF
      rename News _ _ _ _ => eN
      rename blt _ _ = false => hb
      have e4 : 2 * (p1 : Int) + 1 + 1 = ((2 * p1 + 1 + 1 : Nat) : Int) := by omega
      have e3 : 2 * (p1 : Int) + 1 = ((2 * p1 + 1 : Nat) : Int) := by omega
      rw [e4, e3] at hb
      rw [e4] at eF eN
      simp only [Int.toNat_natCast] at eN eF hb
      have hpk : suPick l1 (2 * p1 + 1) = 2 * p1 + 1 + 1 := by
        unfold suPick; rw [if_pos (by omega), if_neg (by rw [hb]; decide)]
      refine ksw_end (l1.set p1 (l1.getD (2 * p1 + 1 + 1) bnil), 2 * p1 + 1 + 1, _, _) eF eN (fun q hq => hq) trivial (by kst_all) (by ksw_same) ⟨?_, ?_, ?_, ?_⟩ ?_
      · show pos ≤ 2 * p1 + 1 + 1
        omega
      · simp only [List.length_set]; omega
      · simp only [List.length_set]; omega
      · rw [← hgo]
        conv => rhs; rw [suGo]
        rw [dif_pos (by omega), hpk]
      · show l.length - (2 * p1 + 1 + 1) < l.length - p1
        omega
    · rename Fr _ _ _ _ => eF
      rename News _ _ _ _ => eN
      have e3 : 2 * (p1 : Int) + 1 = ((2 * p1 + 1 : Nat) : Int) := by omega
      rw [e3] at eF eN
      simp only [Int.toNat_natCast] at eN eF
      have hpk : suPick l1 (2 * p1 + 1) = 2 * p1 + 1 := by
        unfold suPick; rw [if_neg (by omega)]
      refine ksw_end (l1.set p1 (l1.getD (2 * p1 + 1) bnil), 2 * p1 + 1, _, _) eF eN (fun q hq => hq) trivial (by kst_all) (by ksw_same) ⟨?_, ?_, ?_, ?_⟩ ?_
      · show pos ≤ 2 * p1 + 1
        omega
      · simp only [List.length_set]; omega
      · simp only [List.length_set]; omega
      · rw [← hgo]
        conv => rhs; rw [suGo]
        rw [dif_pos (by omega), hpk]
      · show l.length - (2 * p1 + 1) < l.length - p1
        omega
    · rename Fr _ _ _ _ => eF
      rename News _ _ _ _ => eN
      simp only [Int.toNat_natCast] at eN
      refine hret _ _ _ _ ⟨rfl, ?_⟩ eF eN
      have hg : suGo l pos = (l1, p1) := by
        rw [← hgo, suGo, dif_neg (by omega)]
      have hget : (l1.set p1 (l.getD pos bnil)).getD p1 bnil = l.getD pos bnil := by
        simp [hp1]
      unfold siftup
      rw [hg]
      show _ = (D, blist (sdGo (l.getD pos bnil) pos (l1.set p1 (l.getD pos bnil)) p1) n) :: rest
      congr 4
theorem sdGo_length (nw : BT) (sp : Nat) (l : List BT) (pos : Nat) : (sdGo nw sp l pos).length = l.length := by
  induction l, pos using sdGo.induct (nw := nw) (sp := sp) with
  | case1 l pos h hb ih => rw [sdGo, dif_pos h, if_pos hb, ih, List.length_set]
  | case2 l pos h hb => rw [sdGo, dif_pos h, if_neg hb, List.length_set]
  | case3 l pos h => rw [sdGo, dif_neg h, List.length_set]
theorem suGo_length (l : List BT) (pos : Nat) : (suGo l pos).1.length = l.length := by
  induction l, pos using suGo.induct with
  | case1 l pos h ih => rw [suGo, dif_pos h, ih, List.length_set]
  | case2 l pos h => rw [suGo, dif_neg h]
theorem siftup_length (l : List BT) (k : Nat) : (siftup l k).length = l.length := by
  unfold siftup; rw [sdGo_length, List.length_set, suGo_length]
theorem su_callI {w : World} {D : Addr} {l : List BT} {n : Nat} {xp : Int} {t2 : Tok} {news news' : List (Addr × Obj)} (h0 : 0 ≤ xp) (hp : xp < l.length) (hl : l.length ≤ 1000)
    (U : Upd D (blist l n) (blist (siftup l xp.toNat) n) news news') :
    Ctr 4 w 56 [.ref D, .int xp t2] news (fun r nx => r = .none ∧ nx = news') := by
  refine Ctr.upd U fun rest hne => ?_
  have e2 : xp = (xp.toNat : Int) := by omega
  have := su_call w D l n xp.toNat t2 rest hne (by omega) hl
  rw [← e2] at this
  exact this
local macro_rules | `(tactic| ktr_unf) => `(tactic| (refine su_callI ?_ ?_ ?_ (by k_upd) <;> first | omega | (simp [siftup_length] <;> omega)))
local macro_rules | `(tactic| walk_at "call builtin:list.pop") => `(tactic| (k_here; (with_reducible show wpAny _ _ (call _ [Value.ref _]) _ _ _); k_dflt (refine b_pop (by k_asm) (by k_asm) (by k_upd) (by omega) ?_); intro h' F' N'; (try k_sweep)))
local macro_rules | `(tactic| walk_at "call builtin:list.append") => `(tactic| (k_here; (with_reducible show wpAny _ _ (call _ [Value.ref _, Value.bytes _ _]) _ _ _); k_dflt (refine b_append (by k_asm) (by k_asm) (by k_upd) (by omega) ?_); intro h' F' N'; (try k_sweep)))

noncomputable def popV (l : List BT) (p : BT) : BT := if 0 < l.length then l.getD 0 bnil else p
noncomputable def popL (l : List BT) (p : BT) : List BT := if 0 < l.length then siftup (l.set 0 p) 0 else l

theorem pop_call (w : World) (D : Addr) (l : List BT) (q : BT) (n : Nat) (rest : List (Addr × Obj)) (hne : ∀ p ∈ rest, p.1 ≠ D) (hl : l.length ≤ 900) :
    Ctr 6 w 35 [.ref D] ((D, blist (l ++ [q]) n) :: rest) (fun r nx => r = bv (popV l q) ∧ nx = (D, blist (popL l q) (n + 1)) :: rest) := by
  unfold Ctr
  k_fill
  intro dp un gd cn cs a ccd cl outer A₀ base h₀ L m p loose mean mg mb s Q E B F X N T hk hdp hun hret
  refine wpAny_call ?_
  k_dflt cell_enter
  tb_start
  · rename Fr _ _ _ _ => eF
    rename News _ _ _ _ => eN
    rename 0 < List.length _ => h0
    refine hret _ _ _ _ ⟨?_, ?_⟩ eF eN
    · unfold popV; rw [if_pos h0]; rfl
    · unfold popL; rw [if_pos h0]; rfl
  · rename Fr _ _ _ _ => eF
    rename News _ _ _ _ => eN
    rename ¬ 0 < List.length _ => h0
    refine hret _ _ _ _ ⟨?_, ?_⟩ eF eN
    · unfold popV; rw [if_neg h0]; rfl
    · unfold popL; rw [if_neg h0]

theorem push_call (w : World) (D : Addr) (l : List BT) (b : Array UInt8) (t : Tok) (n : Nat) (rest : List (Addr × Obj)) (hne : ∀ p ∈ rest, p.1 ≠ D) (hl : l.length ≤ 900) :
    Ctr 6 w 28 [.ref D, .bytes b t] ((D, blist l n) :: rest) (fun r nx => r = .none ∧ nx = (D, blist (sdGo (b, t) 0 (l ++ [(b, t)]) l.length) (n + 1)) :: rest) := by
  unfold Ctr
  k_fill
  intro dp un gd cn cs a ccd cl outer A₀ base h₀ L m p loose mean mg mb s Q E B F X N T hk hdp hun hret
  refine wpAny_call ?_
  k_dflt cell_enter
  tb_start
  rename Fr _ _ _ _ => eF
  rename News _ _ _ _ => eN
  refine hret _ _ _ _ ⟨rfl, ?_⟩ eF eN
  have e1 : (((l ++ [(b, t)]).length : Int) - 1).toNat = l.length := by simp
  rw [e1]
  have e2 : (l ++ [(b, t)]).getD l.length bnil = (b, t) := by simp
  rw [e2]
  rfl
theorem pop_callI {w : World} {D : Addr} {l : List BT} {q : BT} {n : Nat} {news news' : List (Addr × Obj)} (hl : l.length ≤ 900)
    (U : Upd D (blist (l ++ [q]) n) (blist (popL l q) (n + 1)) news news') :
    Ctr 6 w 35 [.ref D] news (fun r nx => r = bv (popV l q) ∧ nx = news') := Ctr.upd U fun rest hne => pop_call w D l q n rest hne hl
theorem push_callI {w : World} {D : Addr} {l : List BT} {b : Array UInt8} {t : Tok} {n : Nat} {news news' : List (Addr × Obj)} (hl : l.length ≤ 900)
    (U : Upd D (blist l n) (blist (sdGo (b, t) 0 (l ++ [(b, t)]) l.length) (n + 1)) news news') :
    Ctr 6 w 28 [.ref D, .bytes b t] news (fun r nx => r = .none ∧ nx = news') := Ctr.upd U fun rest hne => push_call w D l b t n rest hne hl
section
open PySem.Builtin
variable {prog : Program} {w : World} {A : Around} {E : Value → Shared → Prop} {s : Shared}
noncomputable def riObj (a n c : Int) : Obj := { cls := .type "range_iterator", data := .fields #[rawInt a, rawInt n, rawInt c] }
theorem sub_ri_reversed : isSubtype (.type "range_iterator") (.type "reversed") = pure false := by rw [isSubtype_type]; kernel_rfl
theorem call_range_reversed {r : Addr} {t u v : Tok} {Q : Value → Shared → Prop} (hr : IsRange s.heap r 0 6 1 t u v)
    (h : Q (.ref s.heap.objs.size) { s with heap := s.heap.push (riObj 5 6 (-1)) }) : wpAny (model prog w) A (call (.builtin "range.__reversed__") [.ref r]) Q E s := by
  have hT : s.TypeIs (.ref r) "range" := ⟨_, hr, rfl⟩
  refine wpAny_call_entry F.slot_range_reversed hT F.entry_range_reversed ?_ (F.args_range_reversed_1 _)
  unfold Builtin.«range.__reversed__»
  refine wpAny_bind (wpAny_of_eq (a := Value.ref r) rfl ?_)
  unfold Range.rangeFields
  refine wpAny_bind ?_
  refine wpAny_bind (wpAny_field hr rfl (x := .int 0 t) rfl ?_)
  refine wpAny_bind (wpAny_of_eq (a := some 0) rfl ?_)
  refine wpAny_bind (wpAny_field hr rfl (x := .int 6 u) rfl ?_)
  refine wpAny_bind (wpAny_of_eq (a := some 6) rfl ?_)
  refine wpAny_bind (wpAny_field hr rfl (x := .int 1 v) rfl ?_)
  refine wpAny_bind (wpAny_of_eq (a := some 1) rfl ?_)
  refine wpAny_pure ?_
  exact wpAny_bind (wpAny_newObj_type (wpAny_pure ⟨_, rfl, h⟩))
theorem code_reversed_newR {r : Addr} {t u v : Tok} {Q₁ : Value → Shared → Prop} (hr : IsRange s.heap r 0 6 1 t u v)
    (h : Q₁ (.ref s.heap.objs.size) { s with heap := s.heap.push (riObj 5 6 (-1)) }) :
    codeAny (model prog w) A (.call (.builtin "reversed.__new__") ⟨[.type "reversed", .ref r], []⟩) (wants Q₁ E) s := by
  have hT : s.TypeIs (.ref r) "range" := ⟨_, hr, rfl⟩
  refine codeAny_of_tree ?_
  show wpAny _ A.in1 (do checkBuiltinCall "reversed.__new__" ⟨[.type "reversed", .ref r], []⟩; again (.builtin "reversed.__new__" ⟨[.type "reversed", .ref r], []⟩)) _ _ s
  refine wpAny_bind (wpAny_of_eq (F.newCall_reversed_1 _) (wpAny_pure ⟨plainId_quiet F.plain_reversed_new _, codeAny_builtin F.entry_reversed_new ?_⟩))
  rw [Around.under_plainId F.plain_reversed_new _]
  unfold Builtin.«reversed.__new__»
  refine wpAny_bind (wpAny_of_eq (newClass_reversed _) ?_)
  try dsimp only
  refine wpAny_bind (wpAny_of_eq (a := ()) (by first | rfl | kernel_rfl) ?_)
  refine wpAny_bind (wpAny_of_eq (a := ()) (by first | rfl | kernel_rfl) ?_)
  try dsimp only
  refine wpAny_bind (wpAny_specialOf hT F.slot_range_reversed.lookup ?_)
  try dsimp only
  refine wpAny_bind (wpAny_of_eq (F.slot_range_reversed.bind _) ?_)
  try dsimp only
  first
  | rw [if_neg (show ¬ ((Value.builtin "range.__reversed__" == Value.none) = true) from Bool.false_ne_true)]
  | (show wpAny _ _ (if (Value.builtin "range.__reversed__" == Value.none) = true then _ else _) _ _ _; rw [if_neg (show ¬ ((Value.builtin "range.__reversed__" == Value.none) = true) from Bool.false_ne_true)])
  refine wpAny_bind (wpAny_rule ?_)
  refine wpAny_bind (m := runValue (.call (.builtin "range.__reversed__") ⟨[.ref r], []⟩)) (show wpAny _ _ (call (.builtin "range.__reversed__") [.ref r]) _ _ _ from call_range_reversed hr ?_)
  first
  | exact wpAny_pure h
  | exact wpAny_bind (wpAny_pure (wpAny_pure h))
theorem call_reversed_range {r : Addr} {t u v : Tok} {Q : Value → Shared → Prop} (hr : IsRange s.heap r 0 6 1 t u v)
    (h : Q (.ref s.heap.objs.size) { s with heap := s.heap.push (riObj 5 6 (-1)) }) : wpAny (model prog w) A (call (.type "reversed") [.ref r]) Q E s := by
  refine callType_other (U := "range_iterator") (Q₁ := fun obj s₁ => obj = .ref s.heap.objs.size ∧ s₁ = { s with heap := s.heap.push (riObj 5 6 (-1)) }) (by decide +kernel) F.create_reversed ⟨_, _, F.mro_reversed⟩ F.made_reversed sub_ri_reversed (F.typeCall_reversed_1 _) (code_reversed_newR hr ⟨rfl, rfl⟩) ?_
  rintro obj s₁ ⟨rfl, rfl⟩
  exact ⟨⟨_, Heap.get?_push_size _ rfl, rfl⟩, h⟩
theorem revRange_K {h₀ : Heap} {L : Addr} {m : Str → Option Value} {r : Addr} {t u v : Tok} {news : List (Addr × Obj)} {Q : Value → Shared → Prop} (F : Fr h₀ L s.heap m) (N : News h₀ L s.heap news) (hr : IsRange s.heap r 0 6 1 t u v)
    (h : ∀ D h', Fr h₀ L h' m → News h₀ L h' ((D, riObj 5 6 (-1)) :: news) → (∀ p ∈ news, p.1 < D) → Q (.ref D) { s with heap := h' }) : wpAny (model prog w) A (call (.type "reversed") [.ref r]) Q E s :=
  call_reversed_range hr (h _ _ (F.push _) (News.push F N _) fun p hp => Heap.lt_size (N p hp).1)
/-- the loop over reversed(range(6)): the ledger's one object o i turns -/
theorem iter_revRange {env : Env} {h₀ : Heap} {x : Str} {body : List Stmt} {Q : Flow → Shared → Prop} {I D : Addr} {m₀ : Str → Option Value} {rest : List (Addr × Obj)} (o : Nat → Obj)
    (hh : A.handled = none) (F : Fr h₀ env.locals s.heap m₀) (N : News h₀ env.locals s.heap ((I, riObj 5 6 (-1)) :: (D, o 0) :: rest)) (hlt : ∀ p ∈ (D, o 0) :: rest, p.1 < I)
    (turn : ∀ (i : Nat) (t : Tok) (h : Heap) (tk : Nat) (own : List (Addr × Obj)), i < 6 → OwnOff own (D :: rest.map (·.1)) → Fr h₀ env.locals h (fun y => if y = x then some (.int (5 - (i : Int)) t) else m₀ y) → News h₀ env.locals h ((D, o i) :: (rest ++ own)) →
      wpAny (model prog w) A (execs body env) (InvPostN h₀ env.locals (fun m' nx => nx = (D, o (i + 1)) :: rest ∧ ∀ z, z ≠ x → m' z = m₀ z) own (D :: rest.map (·.1)) { s with heap := h, toks := tk } Q) E { s with heap := h, toks := tk })
    (done : ∀ (u : Str → Option Value) (h : Heap) (tk : Nat), Fr h₀ env.locals h (fun z => if z = x then u z else m₀ z) → News h₀ env.locals h ((D, o 6) :: rest) → Q .next { s with heap := h, toks := tk }) :
    wpAny (model prog w) A (pyIter (.ref I)) (fun it s₂ => LoopAtV prog w A h₀ env x body Q E it s₂) E s := by
  have hI := N _ (List.mem_cons_self ..)
  have hit : IsRangeIter s.heap I 5 6 (-1) := hI.1
  refine wpAny_pyIter_rangeiter hit ?_
  have W := Walks.range (prog := prog) (w := w) hh I 5 (-1) 6
  refine loop_invN (fun i m nx => nx = (D, o i) :: rest ∧ ∀ z, z ≠ x → m z = m₀ z) (news := (D, o 0) :: rest) W ?_ ?_ ?_ ?_ ?_ F (fun p hp => N p (List.mem_cons_of_mem _ hp)) ⟨rfl, fun _ _ => rfl⟩ ?_ ?_
  · intro hm
    exact hI.2.1 (List.mem_singleton.mp hm).symm
  · intro b hb
    rw [List.mem_singleton.mp hb]
    exact hI.2.2
  · intro p hp hq
    exact absurd (hlt p hp) (by rw [List.mem_singleton.mp hq]; exact Nat.lt_irrefl _)
  · intro p hp hq
    exact absurd (hlt p hp) (by rw [List.mem_singleton.mp hq]; exact Nat.lt_irrefl _)
  · exact hit
  · rintro i v m₁ nx h tk own hi ⟨t, rfl⟩ _ hoff ⟨rfl, hm⟩ F₁ N₁
    have e : (5 : Int) + (i : Int) * (-1) = 5 - (i : Int) := by omega
    rw [e] at F₁
    have em : (fun y => if y = x then some (Value.int (5 - (i : Int)) t) else m₁ y) = fun y => if y = x then some (Value.int (5 - (i : Int)) t) else m₀ y := by
      funext y
      by_cases hy : y = x
      · simp [hy]
      · simp only [if_neg hy]; exact hm y hy
    rw [em] at F₁
    exact turn i t h tk own hi hoff F₁ N₁
  · rintro m₁ nx h tk ⟨rfl, hm⟩ F₁ N₁
    have em : (fun z => if z = x then m₁ z else m₀ z) = m₁ := by
      funext y
      by_cases hy : y = x
      · simp [hy]
      · simp only [if_neg hy]; exact (hm y hy).symm
    exact done m₁ h tk (by rw [em]; exact F₁) N₁
end
theorem b_len12 {prog : Program} {w : World} {A : Around} {E : Value → Shared → Prop} {s : Shared} {h₀ : Heap} {L D : Addr} {news : List (Addr × Obj)} {l : List BT} {n : Nat}  {Q : Value → Shared → Prop} (N : News h₀ L s.heap news) (hm : (D, blist l n) ∈ news) (hl : l.length = 12) (h : ∀ k k', Q (.int 12 k) { s with toks := k' }) :
    wpAny (model prog w) A (call (.builtin "len") [.ref D]) Q E s := b_len N hm (by omega) (fun k k' => by rw [hl]; exact h k k')
noncomputable def hfyGo (l : List BT) : Nat → List BT
  | 0 => l
  | i + 1 => siftup (hfyGo l i) (5 - i)
theorem hfyGo_length (l : List BT) : ∀ i, (hfyGo l i).length = l.length
  | 0 => rfl
  | i + 1 => by rw [hfyGo, siftup_length, hfyGo_length l i]

local macro_rules | `(tactic| walk_at "call builtin:len") => `(tactic| (k_here; (with_reducible show wpAny _ _ (call (Value.builtin "len") [Value.ref _]) _ _ _); k_dflt (refine' b_len12 ?k1 ?k2 ?k3 ?_; (case k1 => k_asm); (case k2 => first | exact List.Mem.head _ | k_mem); (case k3 => assumption); k_whole); intro _ _; (try dsimp only)))
theorem hfy_call (w : World) (D : Addr) (l : List BT) (n : Nat) (rest : List (Addr × Obj)) (hne : ∀ p ∈ rest, p.1 ≠ D) (hl : l.length = 12) :
    Ctr 6 w 42 [.ref D] ((D, blist l n) :: rest) (fun r nx => r = .none ∧ nx = (D, blist (hfyGo l 6) n) :: rest) := by
  unfold Ctr
  k_fill
  intro dp un gd cn cs a ccd cl outer A₀ base h₀ L m p loose mean mg mb s Q E B F X N T hk hdp hun hret
  refine wpAny_call ?_
  k_dflt cell_enter
  tb_start
  rename Fr _ _ _ _ => eF
  rename News _ _ _ _ => eN
  rename IsRange _ _ _ _ _ _ _ _ => hR
  refine' revRange_K ?kF ?kN ?kr ?_
  case kF => exact eF
  case kN => exact eN
  case kr => exact hR
  intro I h2 F2 N2 hlt
  refine' iter_revRange (fun i => blist (hfyGo l i) n) ?k1 ?k2 ?k3 ?k4 ?k5 ?k6
  case k1 => rfl
  case k2 => exact F2
  case k3 => exact N2
  case k4 => exact hlt
  case k5 =>
    clear eF eN hR F2 N2
    intro i t h tk own hi hoff F3 N3
    have hne2 : ∀ p ∈ rest ++ own, p.1 ≠ D := fun p hp => (List.mem_append.mp hp).elim (hne p) fun h9 => hoff p h9 D (List.mem_cons_self ..)
    have hl2 : (hfyGo l i).length = 12 := by rw [hfyGo_length, hl]
    have hi2 : (0 : Int) ≤ 5 - (i : Int) := by omega
    try k_fold
    tb_start
    rename Fr _ _ _ _ => eF
    rename News _ _ _ _ => eN
    have e5 : (5 - (i : Int)).toNat = 5 - i := by omega
    rw [e5] at eN
    refine InvEndN.intro eF eN (nx := (D, blist (hfyGo l (i + 1)) n) :: rest) ⟨rfl, ?_⟩ rfl ?_ ?_
    · intro z hz
      show (if z = Str.ofString "i" then _ else _) = _
      rw [if_neg hz]
    · intro p hp
      rcases List.mem_cons.mp hp with rfl | hp
      · exact .head _
      · exact .tail _ (List.mem_append.mpr (.inl hp))
    · intro p hp
      exact .tail _ (List.mem_append.mpr (.inr hp))
  case k6 =>
    intro m₁ h tk F3 N3
    clear eF eN hR F2 N2
    try dsimp only
    try k_fold
    tb_start
    rename Fr _ _ _ _ => eF
    rename News _ _ _ _ => eN
    exact hret _ _ _ _ ⟨rfl, rfl⟩ eF eN

theorem hfy_callI {w : World} {D : Addr} {l : List BT} {n : Nat} {news news' : List (Addr × Obj)} (hl : l.length = 12)
    (U : Upd D (blist l n) (blist (hfyGo l 6) n) news news') :
    Ctr 6 w 42 [.ref D] news (fun r nx => r = .none ∧ nx = news') := Ctr.upd U fun rest hne => hfy_call w D l n rest hne hl
local macro_rules | `(tactic| walk_at "subscriptTail") => `(tactic| (k_here; (with_reducible show wpAny _ _ (subscriptTail _ (Expr.Slice (some _) (some _) none _) (Value.bytes _ _) (Value.ref _)) _ _ _); (with_reducible rename Fr _ _ _ _ => F'); (with_reducible rename News _ _ _ _ => N'); (refine cut1_K (s := ⟨_, _, _, _, _⟩) F' N' (by first | omega | assumption) (by first | omega | assumption | (show _ < (16 : Int); omega)) (by first | omega | (simp only [List.size_toArray, List.length_cons, List.length_nil]; omega) | decide) ?_); intro _ _ _ _ _))
local macro_rules | `(tactic| walk_at "binaryOp Add bytes bytes") => `(tactic| (k_here; (with_reducible show wpAny _ _ (binaryOp Operator.Add (Value.bytes _ _) (Value.bytes _ _)) _ _ _); (refine KBy.add_bytes (by first | omega | (show 1 + _ ≤ _; omega)) ?_); intro _ _))
local macro_rules | `(tactic| walk_at "binaryOp Pow int int") => `(tactic| (k_here; with_reducible refine pow_K (by omega) (by omega) (by omega) (by omega) ?_; intro _ _ _ _; (try dsimp only)))
local macro_rules | `(tactic| walk_at "binaryOp FloorDiv int int") => `(tactic| (k_here; with_reducible refine fdiv_K (by first | assumption | omega) (by first | assumption | omega) ?_; intro _ _; (try dsimp only)))
local macro_rules | `(tactic| walk_at "binaryOp Mod int int") => `(tactic| (k_here; with_reducible refine fmod_K (by first | assumption | omega) ?_; intro _ _; (try dsimp only)))
local macro_rules | `(tactic| walk_at "call type:type") => `(tactic| ((with_reducible show wpAny _ _ (call _ [Value.bytes _ _]) _ _ _); refine call_type_of (Tx := "bytes") rfl (by decide +kernel) ?_))
noncomputable def apGo (n : Nat) (v : Array UInt8) : Array UInt8 :=
  if _h : n = 0 then v else apGo (n / 16) (#[UInt8.ofNat (65 + n % 16)] ++ v)
termination_by n

theorem ap_call (w : World) (x : Int) (t1 : Tok) (news : List (Addr × Obj)) (h0 : 0 ≤ x) (h1 : x < 2 ^ 60) :
    Ctr 2 w 144 [.int x t1] news (fun r nx => (∃ t, r = .bytes (apGo x.toNat #[]) t) ∧ nx = news) := by
  unfold Ctr
  k_fill
  intro dp un gd cn cs a ccd cl outer A₀ base h₀ L m p loose mean mg mb s Q E B F X N T hk hdp hun hret
  refine wpAny_call ?_
  k_dflt cell_enter
  tb_start
  rename Fr _ _ _ _ => lF
  rename News _ _ _ _ => lN
  have ex : (if x < 0 then -x else x) = ((x.toNat : Nat) : Int) := by split <;> omega
  rw [ex] at lF
  refine' ksw_while (σ := Nat × Tok × Array UInt8 × Tok) (fun _ => news) (fun c => [(Str.ofString "num", .int (c.1 : Int) c.2.1), (Str.ofString "val", .bytes c.2.2.1 c.2.2.2)]) (fun _ => True) [Str.ofString "mod"]
    (fun c => (∃ k, c.2.2.1.size + k = 15 ∧ c.1 < 16 ^ k) ∧ apGo c.1 c.2.2.1 = apGo x.toNat #[]) (fun c => c.1) (x.toNat, _, #[], _) ?kF ?kN ?kf ?kk ?kp ?kt ?kE
  case kF => exact lF
  case kN => exact lN
  case kf => trivial
  case kp => exact ⟨⟨15, rfl, by omega⟩, rfl⟩
  case kE => passes_own
  case kk => kst_all
  case kt =>
    intro c u h tk _ hP F1 N1
    clear lF lN
    obtain ⟨n1, tn, v1, tv⟩ := c
    obtain ⟨⟨k, hk1, hk2⟩, hgo⟩ := hP
    dsimp only [kstB] at *
    have hm0 : 0 ≤ (n1 : Int).fmod 16 := Int.fmod_nonneg_of_pos _ (by decide)
    have hm1 : (n1 : Int).fmod 16 < 16 := Int.fmod_lt_of_pos _ (by decide)
    try k_fold
    tb_start
    · rename Fr _ _ _ _ => eF
      rename News _ _ _ _ => eN
      have hn0 : n1 ≠ 0 := by omega
      have e1 : (n1 : Int).fdiv 16 = ((n1 / 16 : Nat) : Int) := by rw [Int.fdiv_eq_ediv_of_nonneg _ (by decide)]; omega
      have e2 : ((n1 : Int).fmod 16).toNat = n1 % 16 := by rw [Int.fmod_eq_emod_of_nonneg _ (by decide)]; omega
      rw [e1] at eF
      rw [e2] at eF
      have e3 : ([65, 66, 67, 68, 69, 70, 71, 72, 73, 74, 75, 76, 77, 78, 79, 80] : List UInt8).toArray.getD (n1 % 16) 0 = UInt8.ofNat (65 + n1 % 16) := by
        have : n1 % 16 < 16 := Nat.mod_lt _ (by decide)
        generalize n1 % 16 = j at *
        have hall : ∀ j : Fin 16, ([65, 66, 67, 68, 69, 70, 71, 72, 73, 74, 75, 76, 77, 78, 79, 80] : List UInt8).toArray.getD j.1 0 = UInt8.ofNat (65 + j.1) := by decide
        exact hall ⟨j, this⟩
      rw [e3] at eF
      cases k with
      | zero => exact absurd hk2 (by simp; omega)
      | succ k =>
        refine ksw_end (n1 / 16, _, #[UInt8.ofNat (65 + n1 % 16)] ++ v1, _) eF eN (fun q hq => .tail _ hq) trivial (by kst_all) (by ksw_same) ⟨⟨k, ?_, ?_⟩, ?_⟩ ?_
        · simp only [Array.size_append]
          show 1 + v1.size + k = 15
          omega
        · show n1 / 16 < 16 ^ k
          rw [Nat.pow_succ] at hk2
          omega
        · rw [← hgo]
          conv => rhs; rw [apGo]
          rw [dif_neg hn0]
        · show n1 / 16 < n1
          omega
    · rename Fr _ _ _ _ => eF
      rename News _ _ _ _ => eN
      have hn0 : n1 = 0 := by omega
      refine hret _ _ _ _ ⟨⟨tv, ?_⟩, rfl⟩ eF eN
      rw [← hgo, apGo, dif_pos hn0]
/-- the six octets of a number of 48 bits -/
noncomputable def octs (x : Int) : List Int := (List.range 6).map fun i => x / 256 ^ (5 - i) % 256
theorem oct_call (w : World) (x : Int) (t1 : Tok) (news : List (Addr × Obj)) (h0 : 0 ≤ x) (h1 : x < 2 ^ 48) :
    Ctr 3 w 156 [.int x t1] news (fun r nx => (∃ t, r = .bytes (byteArr (octs x)) t) ∧ nx = news) := by
  unfold Ctr
  k_fill
  intro dp un gd cn cs a ccd cl outer A₀ base h₀ L m p loose mean mg mb s Q E B F X N T hk hdp hun hret
  refine wpAny_call ?_
  k_dflt ktr_rel
  tb_start
  rename Fr _ _ _ _ => lF
  rename News _ _ _ _ => lN
  k_dflt (refine' ListComp_D lF (by with_unfolding_all rfl) (by decide) (by rfl) (by decide) (by rfl) ?_)
  tb_start
  rename Fr _ _ _ _ => eF
  rename News _ _ _ _ => eN
  rename IsRange _ _ _ _ _ _ _ _ => hR
  refine ⟨_, _, _, _, _, rfl, rfl, eF, eN, hR, ?_⟩
  rintro s₂ ⟨hh, rfl⟩
  refine comp_ind (n := 6) (fun i ys nx => nx = (_, _) :: news ∧ IntsAre ys ((List.range i).map fun i => x / 256 ^ (5 - i) % 256)) ?step ?fin 6 0 [] _ rfl ⟨rfl, .nil⟩
  case step =>
    intro i ys nx v I oI C oC D m₂ h tk E' hi hJ hP hC hx F3 N3 off ne
    obtain ⟨rfl, hI⟩ := hJ
    obtain ⟨t, rfl⟩ := hP
    try clear lF
    try clear lN
    try clear eF
    try clear eN
    tb_start
    rename Fr _ _ _ _ => eF
    rename News _ _ _ _ => eN
    have e5 : (5 - (i : Int)).toNat = 5 - i := by omega
    rw [e5]
    refine ⟨h, _, _, rfl, eF, eN, off, trivial, rfl, ?_⟩
    rw [range_snoc]
    exact ints_snoc hI
  case fin =>
    rintro ys nx ⟨rfl, hI⟩
    tb_start
    rename Fr _ _ _ _ => fF
    rename News _ _ _ _ => fN
    refine' KBa.make_K ?k1 ?k2 ?k3 ?k4 ?k5 ?k6 ?k7 ?_
    case k1 => exact fF
    case k2 => exact fN
    case k3 => rfl
    case k4 => exact ⟨_, (fN _ (.head _)).1, rfl, _, rfl⟩
    case k5 => exact hI
    case k6 =>
      intro n hn
      obtain ⟨j, _, rfl⟩ := List.mem_map.mp hn
      omega
    case k7 => simp
    intro h9 t9 k9 F9 N9 hin9
    try clear fF
    try clear fN
    tb_start
    rename Fr _ _ _ _ => eF
    rename News _ _ _ _ => eN
    exact hret _ _ _ _ ⟨⟨t9, rfl⟩, rfl⟩ eF (fun p hp => eN p (.tail _ (.tail _ hp)))
section
open PySem.Builtin
variable {prog : Program} {w : World} {A : Around} {E : Value → Shared → Prop} {s : Shared} {b : Array UInt8} {t u : Tok}
theorem slot_bytes_find : Slot "bytes" "find" "bytes.find" :=
  .of (owner := "bytes") (n := "find") (by rw [typeLookup_type, builtinLookup_eq_fast]; kernel_rfl) (by decide +kernel) (by decide +kernel) (by decide +kernel)
    (by first | exact .inl (by decide +kernel) | exact .inr (by decide +kernel)) (by rw [isSubtype_type]; kernel_rfl)
theorem type_bytes_find : typeOf (.builtin "bytes.find") = pure (.type "method_descriptor") := by show builtinType _ = _; rw [builtinType_eq_fast]; kernel_rfl
theorem entry_bytes_find : entryFor table "bytes.find" = some Builtin.«bytes.find» := entryFor_of_tree (by kernel_rfl)
theorem args_bytes_find_2 (a b : Value) : argsOk "bytes.find" ⟨[a, b], []⟩ := by
  unfold argsOk; rw [signature?_of (id := "bytes.find") (n := ['d', 'n', 'i', 'f']) (o := ['s', 'e', 't', 'y', 'b']) (by kernel_rfl) FB.owner_bytes]; kernel_rfl
/-- where one octet first stands, or -1 -/
noncomputable def bfind (c : Array UInt8) (x : UInt8) : Int := match Bytes.find? c #[x] 0 c.size with | some i => (i : Int) | none => -1
theorem find_method {M : Model} {pl : Sem Bool} {Q : Value × List Value → Shared → Prop} (h : Q (.builtin "bytes.find", [.bytes b t]) s) : wpAny M A (getMethod (.bytes b t) "find" pl) Q E s :=
  KBd.method_of (.bytes b t) (typeIs_bytes s b t) slot_bytes_find type_bytes_find KBd.noRef h
theorem gives_bytes_find (x : UInt8) (hb : 1 ≤ b.size) : Gives (Builtin.«bytes.find» ⟨[.bytes b t, .bytes #[x] u], []⟩) (.int (bfind b x)) := by
  refine .of_wp fun M A E s Q hq => ?_
  show wpAny M A (Bytes.searchArgs .bytes "find" ⟨[.bytes b t, .bytes #[x] u], []⟩ >>= fun r => _) _ E s
  refine wpAny_bind ?_
  unfold Bytes.searchArgs
  refine wpAny_bind (wpAny_of_eq (a := (Value.bytes b t, [Value.bytes #[x] u])) (by first | rfl | kernel_rfl) ?_)
  refine wpAny_bind (wpAny_of_eq (a := none) (by first | rfl | kernel_rfl) ?_)
  refine wpAny_bind (wpAny_of_eq (a := none) (by first | rfl | kernel_rfl) ?_)
  refine wpAny_bind (wpAny_of_eq KBy.buffer_eq ?_)
  refine wpAny_bind (wpAny_pure ?_)
  refine wpAny_bind (wpAny_of_eq (a := b) rfl ?_)
  refine wpAny_pure ?_
  have hw : Bytes.window b.size none none = (0, (b.size : Int)) := by
    unfold Bytes.window
    simp
    omega
  dsimp only
  have hif : (if (Bytes.window b.size none none).2 - (Bytes.window b.size none none).1 < ((#[x] : Array UInt8).size : Int) then none else some ((Bytes.window b.size none none).1.toNat, (Bytes.window b.size none none).2.toNat)) = some (0, b.size) := by
    rw [hw]
    rw [if_neg (by show ¬ ((b.size : Int) - 0 < 1); omega)]
    rfl
  show wpAny M A (match (if (Bytes.window b.size none none).2 - (Bytes.window b.size none none).1 < ((#[x] : Array UInt8).size : Int) then none else some ((Bytes.window b.size none none).1.toNat, (Bytes.window b.size none none).2.toNat)).bind (fun (lo, hi) => if false = true then Bytes.rfind? b #[x] lo hi else Bytes.find? b #[x] lo hi) with | some i => _ | none => _) _ E s
  rw [hif]
  show wpAny M A (match Bytes.find? b #[x] 0 b.size with | some i => _ | none => _) _ E s
  unfold bfind at hq
  cases hf : Bytes.find? b #[x] 0 b.size with
  | some i =>
    rw [hf] at hq
    exact wpAny_bind (wpAny_mkInt (wpAny_pure ⟨_, rfl, hq⟩))
  | none =>
    rw [hf] at hq
    refine wpAny_bind (wpAny_rule ?_)
    exact wpAny_bind (wpAny_mkInt (wpAny_pure ⟨_, rfl, hq⟩))
theorem call_find {x : UInt8} {Q : Value → Shared → Prop} (hb : 1 ≤ b.size) (h : ∀ k k', Q (.int (bfind b x) k) { s with toks := k' }) : wpAny (model prog w) A (call (.builtin "bytes.find") [.bytes b t, .bytes #[x] u]) Q E s :=
  call_gives slot_bytes_find (typeIs_bytes _ _ _) entry_bytes_find (args_bytes_find_2 _ _) (gives_bytes_find x hb) (h _ _)
end
/-- a number read to a base, its signs looked up -/
noncomputable def rdStep (c : Array UInt8) (v : Int) (x : UInt8) : Int := (c.size : Int) * v + bfind c x
noncomputable def rd (c b : Array UInt8) : Int := b.toList.foldl (rdStep c) 0

local macro_rules | `(tactic| walk_at "getMethod bytes") => `(tactic| (k_here; (with_reducible refine find_method ?_)))
local macro_rules | `(tactic| walk_at "call builtin:bytes.find") => `(tactic| (k_here; (with_reducible show wpAny _ _ (call (Value.builtin _) [Value.bytes _ _, Value.bytes _ _]) _ _ _); (refine call_find (by omega) ?_); intro _ _; (try dsimp only)))
theorem read_call (w : World) (b c : Array UInt8) (t1 t2 : Tok) (news : List (Addr × Obj)) (h0 : b.size ≤ 20) (h1 : 1 ≤ c.size) (h2 : c.size ≤ 64) :
    Ctr 3 w 163 [.bytes b t1, .bytes c t2] news (fun r nx => (∃ t, r = .int (rd c b) t) ∧ nx = news) := by
  unfold Ctr
  k_fill
  intro dp un gd cn cs a ccd cl outer A₀ base h₀ L m p loose mean mg mb s Q E B F X N T hk hdp hun hret
  refine wpAny_call ?_
  k_dflt cell_enter
  tb_start
  rename Fr _ _ _ _ => lF
  rename News _ _ _ _ => lN
  rename IsRange _ _ _ _ _ _ _ _ => hR
  obtain ⟨hsm, hsz⟩ := range_small (n := b.size) (by omega)
  k_dflt (refine' kst_range (σ := Int × Tok) (fun _ => news) (fun c => [(Str.ofString "value", .int c.1 c.2)]) (fun _ => True) [] (fun pre v => v.1 = (b.toList.take pre.length).foldl (rdStep c) 0) (0, _) ?k1 hR hsm hsz ?kF ?kN ?kf ?kk ?kp ?turn ?done)
  case k1 => rfl
  case kF => exact lF
  case kN => exact lN
  case kf => trivial
  case kk => kst_all
  case kp => rfl
  case turn =>
    intro v pre k t u h tk own hk1 hlt hoff _ hP F1 N1
    clear lF lN
    obtain ⟨v1, tv⟩ := v
    dsimp only [kstB] at *
    try k_fold
    tb_start
    rename Fr _ _ _ _ => eF
    rename News _ _ _ _ => eN
    have e1 : k.toNat = pre.length := by omega
    rw [e1] at eF
    have hp2 : pre.length < b.size := hlt
    refine kst_end (_, _) eF eN (fun p hp => List.mem_append.mpr (.inl hp)) (fun p hp => List.mem_append.mpr (.inr hp)) rfl trivial (by kst_all) (by kst_same) ?_
    show (c.size : Int) * v1 + bfind c (b.getD pre.length 0) = (b.toList.take (pre ++ [k]).length).foldl (rdStep c) 0
    rw [List.length_append, show [k].length = 1 from rfl, List.take_add_one, List.foldl_append, ← hP]
    have e2 : b.toList[pre.length]? = some (b.getD pre.length 0) := by simp [Array.getD, hp2]
    rw [e2]
    rfl
  case done =>
    intro v u h tk _ hP F1 N1
    clear lF lN
    obtain ⟨v1, tv⟩ := v
    dsimp only [kstB] at *
    try k_fold
    tb_start
    rename Fr _ _ _ _ => eF
    rename News _ _ _ _ => eN
    refine hret _ _ _ _ ⟨⟨tv, ?_⟩, rfl⟩ eF eN
    rw [hP, rangeKs_length, List.take_of_length_le (by simp)]
    rfl
theorem truth_call (w : World) (b : Bool) (news : List (Addr × Obj)) :
    Ctr 1 w 98 [.bool b] news (fun r nx => r = .bool b ∧ nx = news) := by
  unfold Ctr
  k_fill
  intro dp un gd cn cs a ccd cl outer A₀ base h₀ L m p loose mean mg mb s Q E B F X N T hk hdp hun hret
  refine wpAny_call ?_
  k_dflt cell_enter
  cases b
  all_goals tb_start
  all_goals (rename Fr _ _ _ _ => eF; rename News _ _ _ _ => eN)
  · exact hret _ _ _ _ ⟨rfl, rfl⟩ eF eN
  · exact hret _ _ _ _ ⟨rfl, rfl⟩ eF eN
theorem buffer_call (w : World) (b : Array UInt8) (t : Tok) (news : List (Addr × Obj)) :
    Ctr 1 w 91 [.bytes b t] news (fun r nx => r = .bytes b t ∧ nx = news) := by
  unfold Ctr
  k_fill
  intro dp un gd cn cs a ccd cl outer A₀ base h₀ L m p loose mean mg mb s Q E B F X N T hk hdp hun hret
  refine wpAny_call ?_
  k_dflt cell_enter
  tb_start
  (rename Fr _ _ _ _ => eF; rename News _ _ _ _ => eN)
  exact hret _ _ _ _ ⟨rfl, rfl⟩ eF eN
theorem abuffer_call (w : World) (b : Array UInt8) (t : Tok) (news : List (Addr × Obj)) :
    Ctr 1 w 84 [.bytes b t] news (fun r nx => r = .bytes b t ∧ nx = news) := by
  unfold Ctr
  k_fill
  intro dp un gd cn cs a ccd cl outer A₀ base h₀ L m p loose mean mg mb s Q E B F X N T hk hdp hun hret
  refine wpAny_call ?_
  k_dflt cell_enter
  tb_start
  (rename Fr _ _ _ _ => eF; rename News _ _ _ _ => eN)
  exact hret _ _ _ _ ⟨rfl, rfl⟩ eF eN
theorem bfd_call (w : World) (b : Array UInt8) (t : Tok) (news : List (Addr × Obj)) :
    Ctr 1 w 64 [.bytes b t] news (fun r nx => r = .bytes b t ∧ nx = news) := by
  unfold Ctr
  k_fill
  intro dp un gd cn cs a ccd cl outer A₀ base h₀ L m p loose mean mg mb s Q E B F X N T hk hdp hun hret
  refine wpAny_call ?_
  k_dflt cell_enter
  tb_start
  (rename Fr _ _ _ _ => eF; rename News _ _ _ _ => eN)
  exact hret _ _ _ _ ⟨rfl, rfl⟩ eF eN
/-- the value of a sign of the base 64 -/
noncomputable def b64v (c : Int) : Int :=
  if 65 ≤ c ∧ c ≤ 90 then c - 65 else if 97 ≤ c ∧ c ≤ 122 then c - 71 else if 48 ≤ c ∧ c ≤ 57 then c + 4 else if c = 43 then 62 else if c = 47 then 63 else 64
theorem b64v_call (w : World) (c : Int) (t : Tok) (news : List (Addr × Obj)) :
    Ctr 1 w 105 [.int c t] news (fun r nx => (∃ t, r = .int (b64v c) t) ∧ nx = news) := by
  unfold Ctr
  k_fill
  intro dp un gd cn cs a ccd cl outer A₀ base h₀ L m p loose mean mg mb s Q E B F X N T hk hdp hun hret
  refine wpAny_call ?_
  k_dflt cell_enter
  tb_start
  all_goals (rename Fr _ _ _ _ => eF; rename News _ _ _ _ => eN; refine hret (.int _ _) _ _ _ ⟨⟨_, congrArg (fun z => Value.int z _) ?_⟩, rfl⟩ eF eN; unfold b64v; (repeat' split) <;> omega)
local macro_rules | `(tactic| ktr_unf) => `(tactic| first | exact truth_call _ _ _ | exact buffer_call _ _ _ _ | exact abuffer_call _ _ _ _ | exact bfd_call _ _ _ _ | exact b64v_call _ _ _ _)
local macro_rules | `(tactic| walk_at "binaryOp LShift int int") => `(tactic| (k_here; first | refine shl_K 256 (by decide) (by decide) (by decide) (by omega) (by omega) (fun _ _ => ?_) | refine shl_K 4 (by decide) (by decide) (by decide) (by omega) (by omega) (fun _ _ => ?_) | refine shl_K 16 (by decide) (by decide) (by decide) (by omega) (by omega) (fun _ _ => ?_) | refine shl_K 64 (by decide) (by decide) (by decide) (by omega) (by omega) (fun _ _ => ?_)))
local macro_rules | `(tactic| walk_at "binaryOp RShift int int") => `(tactic| (k_here; first | refine shr_q 16 (by decide) (by decide) (fun _ _ => ?_) | refine shr_q 4 (by decide) (by decide) (fun _ _ => ?_) | with_reducible refine shr_K (by omega) (fun _ _ => ?_)))
local macro_rules | `(tactic| walk_at "binaryOp BitAnd int int") => `(tactic| (k_here; first | refine mask_q 16 65536 (by decide) (by decide) (fun _ _ => ?_) | refine mask_q 6 64 (by decide) (by decide) (fun _ _ => ?_) | refine mask_q 4 16 (by decide) (by decide) (fun _ _ => ?_) | refine mask_q 2 4 (by decide) (by decide) (fun _ _ => ?_)))
local macro_rules | `(tactic| walk_at "binaryOp BitOr int int") => `(tactic| (k_here; first | refine or_K 8 (q := 256) (by decide) (by omega) (by omega) (by omega) (fun _ _ => ?_) | refine or_K 2 (q := 4) (by decide) (by omega) (by omega) (by omega) (fun _ _ => ?_) | refine or_K 4 (q := 16) (by decide) (by omega) (by omega) (by omega) (fun _ _ => ?_) | refine or_K 6 (q := 64) (by decide) (by omega) (by omega) (by omega) (fun _ _ => ?_)))
local macro_rules | `(tactic| walk_at "call builtin:list.append") => `(tactic| (k_here; (with_reducible show wpAny _ _ (call _ [Value.ref _, Value.int _ _]) _ _ _); k_dflt (refine i_append (by k_asm) (by k_asm) (by k_upd) (by omega) ?_); intro h' F' N'; (try k_sweep)))
local macro_rules | `(tactic| walk_at "subscriptTail") => `(tactic| (k_here; (with_reducible show wpAny _ _ (subscriptTail _ _ (Value.bytes _ _) (Value.int _ _)) _ _ _); (refine bitem_K (by omega) (by first | omega | (show _ < (64 : Int); omega)) (by first | omega | decide) ?_); intro _ _; (try dsimp only)))
local macro_rules | `(tactic| walk_at "call type:bytes") => `(tactic| (k_here; (with_reducible show wpAny _ _ (call _ [Value.ref _]) _ _ _); k_dflt (refine i_bytes (by k_asm) (by k_asm) (by first | exact List.Mem.head _ | k_mem) rfl (by assumption) (by omega) ?_); intro h' _ _ F' N'; (try k_sweep)))
/-- the signs of the base 64 -/
noncomputable def B64 : List UInt8 := [65, 66, 67, 68, 69, 70, 71, 72, 73, 74, 75, 76, 77, 78, 79, 80, 81, 82, 83, 84, 85, 86, 87, 88, 89, 90, 97, 98, 99, 100, 101, 102, 103, 104, 105, 106, 107, 108, 109, 110, 111, 112, 113, 114, 115, 116, 117, 118, 119, 120, 121, 122, 48, 49, 50, 51, 52, 53, 54, 55, 56, 57, 43, 47]
noncomputable def b64s (i : Int) : Int := ((B64.getD i.toNat 0).toNat : Int)
/-- what the inner loop writes, leftbits bits being left of lc -/
noncomputable def encW (lc : Int) (lb : Nat) : List Int := if _h : 6 ≤ lb then b64s (lc / 2 ^ (lb - 6) % 64) :: encW lc (lb - 6) else []
termination_by lb
noncomputable def encStep (c : Int × Nat × List Int) (b : Int) : Int × Nat × List Int :=
  ((c.1 * 256 + b) % 65536, (c.2.1 + 8) % 6, c.2.2 ++ encW ((c.1 * 256 + b) % 65536) (c.2.1 + 8))
theorem b64s_range (i : Int) : 0 ≤ b64s i ∧ b64s i < 256 := by
  unfold b64s
  have := UInt8.toNat_lt (B64.getD i.toNat 0)
  omega
theorem b2a_call (w : World) (b : Array UInt8) (t : Tok) (news : List (Addr × Obj)) (hb : b.size = 6) :
    CtrK 3 w 121 [.bytes b t] [(Str.ofString "newline", .bool false)] news (fun r nx => (∃ t, r = .bytes (byteArr ((KBw.bInts b).foldl encStep (0, 0, [])).2.2) t) ∧ nx = news) := by
  unfold CtrK
  k_fill
  intro dp un gd cn cs a ccd cl outer A₀ base h₀ L m p loose mean mg mb s Q E B F X N T hk hdp hun hret
  refine wpAny_call ?_
  k_dflt tb_rel
  tb_start
  rename Fr _ _ _ _ => lF
  rename News _ _ _ _ => lN
  rename_i D _ hD _ _ _
  have hneD : ∀ p ∈ news, p.1 ≠ D := fun p hp => Nat.ne_of_lt (hD p hp)

  k_dflt (refine' KStb.kst_bytes (σ := (Int × Tok) × (Nat × Tok) × List IT × Nat) (fun c => (D, ilist c.2.2.1 c.2.2.2) :: news) (fun c => [(Str.ofString "leftchar", .int c.1.1 c.1.2), (Str.ofString "leftbits", .int (c.2.1.1 : Int) c.2.1.2)]) (fun _ => True) []
              (fun pre c => (c.1.1, c.2.1.1, c.2.2.1.map (·.1)) = pre.foldl encStep (0, 0, []) ∧ 0 ≤ c.1.1 ∧ c.1.1 < 65536 ∧ c.2.1.1 = 8 * pre.length % 6 ∧ c.2.2.1.length ≤ 3 * pre.length ∧ (∀ x ∈ c.2.2.1.map (·.1), 0 ≤ x ∧ x < 256)) ((0, _), (0, _), [], 0) (ks := KBw.bInts b) (len := b.size) ?kb ?kl ?k1 ?kF ?kN ?kf ?kk ?kp ?turn ?done)

  case kb => rfl
  case kl => exact KBw.ints_length b
  case k1 => rfl
  case kF => exact lF
  case kN => exact lN
  case kf => trivial
  case kk => kst_all
  case kp => exact ⟨rfl, Int.le_refl _, by show (0 : Int) < 65536; decide, rfl, Nat.le_refl _, fun _ h => nomatch h⟩
  case turn =>
    intro c pre post k tk1 u h tk own hks hlt hk0 hk1 hoff _ hP F1 N1
    clear lF lN
    obtain ⟨⟨lc, tc⟩, ⟨lb, tb⟩, l, nn⟩ := c
    dsimp only [kstB] at *
    obtain ⟨hfold, hc0, hc1, hlb, hlen, hall⟩ := hP
    have hneO : ∀ p ∈ news ++ own, p.1 ≠ D := fun p hp => (List.mem_append.mp hp).elim (hneD p) fun h9 => hoff p h9 D (List.mem_cons_self ..)
    have N2 : News _ _ h ((D, ilist l nn) :: (news ++ own)) := N1
    clear N1
    try k_fold
    tb_start
    rename Fr _ _ _ _ => lF
    rename News _ _ _ _ => lN
    have hlc0 : 0 ≤ (lc * 256 + k) % 65536 := by omega
    have hlc1 : (lc * 256 + k) % 65536 < 65536 := by omega
    generalize hlcE : (lc * 256 + k) % 65536 = lc1 at *
    have e8 : ((lb : Nat) : Int) + 8 = ((lb + 8 : Nat) : Int) := by omega
    rw [e8] at lF
    refine' ksw_while (σ := (Nat × Tok) × List IT × Nat) (fun c => (D, ilist c.2.1 c.2.2) :: (news ++ own)) (fun c => [(Str.ofString "leftbits", .int (c.1.1 : Int) c.1.2)]) (fun _ => True) []
      (fun c => c.1.1 ≤ 13 ∧ c.2.1.map (·.1) ++ encW lc1 c.1.1 = l.map (·.1) ++ encW lc1 (lb + 8) ∧ c.1.1 % 6 = (lb + 8) % 6 ∧ c.2.1.length + c.1.1 / 6 ≤ l.length + 2 ∧ (∀ x ∈ c.2.1.map (·.1), 0 ≤ x ∧ x < 256)) (fun c => c.1.1) ((lb + 8, _), l, nn) ?kF ?kN ?kf ?kk ?kp ?kt ?kE
    case kF => exact lF
    case kN => exact lN
    case kf => trivial
    case kp =>
      refine ⟨?_, rfl, rfl, ?_, hall⟩
      · show lb + 8 ≤ 13
        omega
      · show l.length + (lb + 8) / 6 ≤ l.length + 2
        omega
    case kE => passes_own
    case kk => kst_all
    case kt =>
      intro c u h tk _ hP F1 N1
      clear lF lN
      obtain ⟨⟨lb2, tb2⟩, l2, nn2⟩ := c
      dsimp only [kstB] at *
      obtain ⟨hw1, hw2, hw3, hw4, hw5⟩ := hP
      try k_fold
      tb_start
      · rename Fr _ _ _ _ => eF
        rename News _ _ _ _ => eN
        have e6 : ((lb2 : Nat) : Int) - 6 = ((lb2 - 6 : Nat) : Int) := by omega
        rw [e6] at eF eN
        rw [Int.toNat_natCast] at eN
        change News _ _ _ ((D, ilist (l2 ++ [(b64s (lc1 / 2 ^ (lb2 - 6) % 64), _)]) (nn2 + 1)) :: (news ++ own)) at eN
        refine ksw_end ((lb2 - 6, _), _, _) eF eN (fun q hq => hq) trivial (by kst_all) (by ksw_same) ⟨?_, ?_, ?_, ?_, ?_⟩ ?_
        · show lb2 - 6 ≤ 13
          omega
        · rw [← hw2]
          conv => rhs; rw [encW]
          rw [dif_pos (by omega)]
          simp
        · show (lb2 - 6) % 6 = (lb + 8) % 6
          omega
        · simp only [List.length_append, List.length_cons, List.length_nil]
          omega
        · intro x hx
          simp only [List.map_append, List.mem_append] at hx
          rcases hx with hx | hx
          · exact hw5 x hx
          · simp only [List.map_cons, List.map_nil, List.mem_singleton] at hx
            subst hx
            exact b64s_range _
        · show lb2 - 6 < lb2
          omega
      · have h6 : lb2 < 6 := by omega
        have hnil : encW lc1 lb2 = [] := by rw [encW, dif_neg (by omega)]
        rw [hnil, List.append_nil] at hw2
        have hlb2 : lb2 = (lb + 8) % 6 := by omega
        refine kst_end ((lc1, _), (lb2, _), l2, nn2) F1 N1 (fun p hp => ?_) (fun p hp => .tail _ (List.mem_append.mpr (.inr hp))) rfl trivial (by kst_all) (by kst_same) ⟨?_, hlc0, hlc1, ?_, ?_, hw5⟩
        · rcases List.mem_cons.mp hp with rfl | hp
          · exact .head _
          · exact .tail _ (List.mem_append.mpr (.inl hp))
        · rw [List.foldl_append, ← hfold]
          show (lc1, lb2, l2.map (·.1)) = encStep (lc, lb, l.map (·.1)) k
          unfold encStep
          dsimp only
          rw [hlcE, hw2, ← hlb2]
        · show lb2 = 8 * (pre ++ [k]).length % 6
          rw [List.length_append]
          show lb2 = 8 * (pre.length + 1) % 6
          omega
        · rw [List.length_append]
          show l2.length ≤ 3 * (pre.length + 1)
          omega
  case done =>
    intro c u h tk _ _ hP F1 N1
    clear lF lN
    obtain ⟨⟨lc, tc⟩, ⟨lb, tb⟩, l, nn⟩ := c
    dsimp only [kstB] at *
    obtain ⟨hfold, hc0, hc1, hlb, hlen, hall⟩ := hP
    have hks : (KBw.bInts b).length = 6 := by rw [KBw.ints_length, hb]
    rw [hks] at hlb hlen
    have hlb0 : lb = 0 := hlb
    subst hlb0
    try k_fold
    tb_start
    rename Fr _ _ _ _ => eF
    rename News _ _ _ _ => eN
    rw [← hfold] at hret
    exact hret _ _ _ _ ⟨⟨_, rfl⟩, rfl⟩ eF (fun p hp => eN p (.tail _ hp))
theorem enc_call (w : World) (b : Array UInt8) (t : Tok) (news : List (Addr × Obj)) (hb : b.size = 6) :
    Ctr 5 w 129 [.bytes b t] news (fun r nx => (∃ t, r = .bytes (byteArr ((KBw.bInts b).foldl encStep (0, 0, [])).2.2) t) ∧ nx = news) := by
  unfold Ctr
  k_fill
  intro dp un gd cn cs a ccd cl outer A₀ base h₀ L m p loose mean mg mb s Q E B F X N T hk hdp hun hret
  refine wpAny_call ?_
  k_dflt tb_rel
  tb_start
  k_dflt (refine' CtrK.use (b2a_call _ _ _ _ ?kh) ?k1 ?k2 ?k3 ?k4 ?k5 ?kK ?kd ?ku ?_; (case kh => assumption); (case k1 => k_asm); (case k2 => k_asm); (case k3 => k_asm); (case k4 => k_asm); (case k5 => k_asm); (case kK => first | exact rfl | assumption); (case kd => ktr_room); (case ku => ktr_units))
  intro r9 h' t9 n9 hP9 F' N'
  obtain ⟨⟨tv9, hr9⟩, hn9⟩ := hP9
  subst n9
  subst r9
  try dsimp only
  try k_sweep
  tb_start
  rename Fr _ _ _ _ => eF
  rename News _ _ _ _ => eN
  exact hret _ _ _ _ ⟨⟨_, rfl⟩, rfl⟩ eF eN
noncomputable def decStep (c : Nat × Int × List Int) (ch : Int) : Nat × Int × List Int :=
  if c.1 = 0 then (1, b64v ch, c.2.2) else if c.1 = 1 then (2, b64v ch % 16, c.2.2 ++ [c.2.1 * 4 + b64v ch / 16]) else if c.1 = 2 then (3, b64v ch % 4, c.2.2 ++ [c.2.1 * 16 + b64v ch / 4]) else (0, 0, c.2.2 ++ [c.2.1 * 64 + b64v ch])
theorem a2b_call (w : World) (b : Array UInt8) (t : Tok) (news : List (Addr × Obj)) (hb : b.size = 8) (hch : ∀ c ∈ KBw.bInts b, c ≠ 61 ∧ 0 ≤ b64v c ∧ b64v c < 64) :
    CtrK 3 w 113 [.bytes b t] [(Str.ofString "strict_mode", .bool false)] news (fun r nx => (∃ t, r = .bytes (byteArr ((KBw.bInts b).foldl decStep (0, 0, [])).2.2) t) ∧ nx = news) := by
  unfold CtrK
  k_fill
  intro dp un gd cn cs a ccd cl outer A₀ base h₀ L m p loose mean mg mb s Q E B F X N T hk hdp hun hret
  refine wpAny_call ?_
  k_dflt tb_rel
  tb_start
  rename Fr _ _ _ _ => lF
  rename News _ _ _ _ => lN
  rename ∀ p ∈ news, p.1 < _ => hD
  rename_i D _ _ _ _ _ _
  have hneD : ∀ p ∈ news, p.1 ≠ D := fun p hp => Nat.ne_of_lt (hD p hp)
  k_dflt (refine' KStb.kst_bytes (σ := (Nat × Tok) × (Int × Tok) × Tok × (Int × Tok) × List IT × Nat) (fun c => (D, ilist c.2.2.2.2.1 c.2.2.2.2.2) :: news) (fun c => [(Str.ofString "quad_pos", .int (c.1.1 : Int) c.1.2), (Str.ofString "leftchar", .int c.2.1.1 c.2.1.2), (Str.ofString "pads", .int 0 c.2.2.1), (Str.ofString "i", .int c.2.2.2.1.1 c.2.2.2.1.2)]) (fun _ => True) []
              (fun pre c => (c.1.1, c.2.1.1, c.2.2.2.2.1.map (·.1)) = pre.foldl decStep (0, 0, []) ∧ c.1.1 = pre.length % 4 ∧ 0 ≤ c.2.1.1 ∧ c.2.1.1 < 64 ∧ (c.1.1 = 2 → c.2.1.1 < 16) ∧ (c.1.1 = 3 → c.2.1.1 < 4) ∧ c.2.2.2.2.1.length ≤ pre.length ∧ (∀ x ∈ c.2.2.2.2.1.map (·.1), 0 ≤ x ∧ x < 256)) ((0, _), (0, _), _, (0, _), [], 0) (ks := KBw.bInts b) (len := b.size) ?kb ?kl ?k1 ?kF ?kN ?kf ?kk ?kp ?turn ?done)
  case kb => rfl
  case kl => exact KBw.ints_length b
  case k1 => rfl
  case kF => exact lF
  case kN => exact lN
  case kf => trivial
  case kk => kst_all
  case kp => exact ⟨rfl, rfl, Int.le_refl _, by show (0 : Int) < 64; decide, fun _ => by show (0 : Int) < 16; decide, fun _ => by show (0 : Int) < 4; decide, Nat.le_refl _, fun _ h => nomatch h⟩
  case turn =>
    intro c pre post k tk1 u h tk own hks hlt hk0 hk1 hoff _ hP F1 N1
    clear lF lN
    obtain ⟨⟨qp, tq⟩, ⟨lc, tc⟩, tp, ⟨ii, ti⟩, l, nn⟩ := c
    dsimp only [kstB] at *
    obtain ⟨hfold, hqp, hc0, hc1, hc2, hc3, hlen, hall⟩ := hP
    obtain ⟨hk61, hv0, hv1⟩ := hch k (by rw [hks]; simp)
    have hneO : ∀ p ∈ news ++ own, p.1 ≠ D := fun p hp => (List.mem_append.mp hp).elim (hneD p) fun h9 => hoff p h9 D (List.mem_cons_self ..)
    have N2 : News _ _ h ((D, ilist l nn) :: (news ++ own)) := N1
    clear N1
    try k_fold
    tb_start
    · exact absurd ‹k = 61› hk61
    · rename Fr _ _ _ _ => eF
      rename News _ _ _ _ => eN
      have hqv : qp = 0 := by omega
      subst hqv
      refine kst_end ((1, _), (b64v k, _), _, (_, _), l, nn) eF eN (fun p hp => ?_) (fun p hp => .tail _ (List.mem_append.mpr (.inr hp))) rfl trivial (by kst_all) (by kst_same) ⟨?_, ?_, ?_, ?_, ?_, ?_, ?_, ?_⟩
      · rcases List.mem_cons.mp hp with rfl | hp
        · exact .head _
        · exact .tail _ (List.mem_append.mpr (.inl hp))
      · rw [List.foldl_append, ← hfold]
        simp [decStep]
      · show 1 = (pre ++ [k]).length % 4
        rw [List.length_append]
        show 1 = (pre.length + 1) % 4
        omega
      · show 0 ≤ b64v k
        omega
      · show b64v k < 64
        omega
      · intro h9
        show b64v k < 16
        exact absurd (show (1 : Nat) = 2 from h9) (by decide)
      · intro h9
        show b64v k < 4
        exact absurd (show (1 : Nat) = 3 from h9) (by decide)
      · rw [List.length_append]
        exact Nat.le_trans hlen (Nat.le_add_right _ _)
      · exact hall
    · rename Fr _ _ _ _ => eF
      rename News _ _ _ _ => eN
      have hqv : qp = 1 := by omega
      subst hqv
      obtain ⟨tt, eN⟩ : ∃ tt, News _ _ _ ((D, ilist (l ++ [(lc * 4 + b64v k / 16, tt)]) (nn + 1)) :: (news ++ own)) := ⟨_, eN⟩
      refine kst_end ((2, _), (b64v k % 16, _), _, (_, _), l ++ [(lc * 4 + b64v k / 16, tt)], nn + 1) eF eN (fun p hp => ?_) (fun p hp => .tail _ (List.mem_append.mpr (.inr hp))) rfl trivial (by kst_all) (by kst_same) ⟨?_, ?_, ?_, ?_, ?_, ?_, ?_, ?_⟩
      · rcases List.mem_cons.mp hp with rfl | hp
        · exact .head _
        · exact .tail _ (List.mem_append.mpr (.inl hp))
      · rw [List.foldl_append, ← hfold]
        simp [decStep]
      · show 2 = (pre ++ [k]).length % 4
        rw [List.length_append]
        show 2 = (pre.length + 1) % 4
        omega
      · show 0 ≤ b64v k % 16
        omega
      · show b64v k % 16 < 64
        omega
      · intro h9
        show b64v k % 16 < 16
        omega
      · intro h9
        show b64v k % 16 < 4
        exact absurd (show (2 : Nat) = 3 from h9) (by decide)
      · rw [List.length_append]
        rw [List.length_append]; exact Nat.add_le_add_right hlen 1
      · intro x hx
        simp only [List.map_append, List.mem_append, List.map_cons, List.map_nil, List.mem_singleton] at hx
        rcases hx with hx | hx
        · exact hall x hx
        · subst hx
          have h2 := hc2
          have h3 := hc3
          omega
    · rename Fr _ _ _ _ => eF
      rename News _ _ _ _ => eN
      have hqv : qp = 2 := by omega
      subst hqv
      obtain ⟨tt, eN⟩ : ∃ tt, News _ _ _ ((D, ilist (l ++ [(lc * 16 + b64v k / 4, tt)]) (nn + 1)) :: (news ++ own)) := ⟨_, eN⟩
      refine kst_end ((3, _), (b64v k % 4, _), _, (_, _), l ++ [(lc * 16 + b64v k / 4, tt)], nn + 1) eF eN (fun p hp => ?_) (fun p hp => .tail _ (List.mem_append.mpr (.inr hp))) rfl trivial (by kst_all) (by kst_same) ⟨?_, ?_, ?_, ?_, ?_, ?_, ?_, ?_⟩
      · rcases List.mem_cons.mp hp with rfl | hp
        · exact .head _
        · exact .tail _ (List.mem_append.mpr (.inl hp))
      · rw [List.foldl_append, ← hfold]
        simp [decStep]
      · show 3 = (pre ++ [k]).length % 4
        rw [List.length_append]
        show 3 = (pre.length + 1) % 4
        omega
      · show 0 ≤ b64v k % 4
        omega
      · show b64v k % 4 < 64
        omega
      · intro h9
        show b64v k % 4 < 16
        omega
      · intro h9
        show b64v k % 4 < 4
        omega
      · rw [List.length_append]
        rw [List.length_append]; exact Nat.add_le_add_right hlen 1
      · intro x hx
        simp only [List.map_append, List.mem_append, List.map_cons, List.map_nil, List.mem_singleton] at hx
        rcases hx with hx | hx
        · exact hall x hx
        · subst hx
          have h2 := hc2
          have h3 := hc3
          omega
    · rename Fr _ _ _ _ => eF
      rename News _ _ _ _ => eN
      have hqv : qp = 3 := by omega
      subst hqv
      obtain ⟨tt, eN⟩ : ∃ tt, News _ _ _ ((D, ilist (l ++ [(lc * 64 + b64v k, tt)]) (nn + 1)) :: (news ++ own)) := ⟨_, eN⟩
      refine kst_end ((0, _), ((0 : Int), _), _, (_, _), l ++ [(lc * 64 + b64v k, tt)], nn + 1) eF eN (fun p hp => ?_) (fun p hp => .tail _ (List.mem_append.mpr (.inr hp))) rfl trivial (by kst_all) (by kst_same) ⟨?_, ?_, ?_, ?_, ?_, ?_, ?_, ?_⟩
      · rcases List.mem_cons.mp hp with rfl | hp
        · exact .head _
        · exact .tail _ (List.mem_append.mpr (.inl hp))
      · rw [List.foldl_append, ← hfold]
        simp [decStep]
      · show 0 = (pre ++ [k]).length % 4
        rw [List.length_append]
        show 0 = (pre.length + 1) % 4
        omega
      · show 0 ≤ (0 : Int)
        omega
      · show (0 : Int) < 64
        omega
      · intro h9
        show (0 : Int) < 16
        omega
      · intro h9
        show (0 : Int) < 4
        omega
      · rw [List.length_append]
        rw [List.length_append]; exact Nat.add_le_add_right hlen 1
      · intro x hx
        simp only [List.map_append, List.mem_append, List.map_cons, List.map_nil, List.mem_singleton] at hx
        rcases hx with hx | hx
        · exact hall x hx
        · subst hx
          have h2 := hc2
          have h3 := hc3
          omega
  case done =>
    intro c u h tk _ _ hP F1 N1
    clear lF lN
    obtain ⟨⟨qp, tq⟩, ⟨lc, tc⟩, tp, ⟨ii, ti⟩, l, nn⟩ := c
    dsimp only [kstB] at *
    obtain ⟨hfold, hqp, hc0, hc1, hc2, hc3, hlen, hall⟩ := hP
    have hks : (KBw.bInts b).length = 8 := by rw [KBw.ints_length, hb]
    rw [hks] at hqp hlen
    have hqp0 : qp = 0 := hqp
    subst hqp0
    try k_fold
    tb_start
    rename Fr _ _ _ _ => eF
    rename News _ _ _ _ => eN
    rw [← hfold] at hret
    exact hret _ _ _ _ ⟨⟨_, rfl⟩, rfl⟩ eF (fun p hp => eN p (.tail _ hp))
theorem dec_call (w : World) (b : Array UInt8) (t : Tok) (news : List (Addr × Obj)) (hb : b.size = 8) (hch : ∀ c ∈ KBw.bInts b, c ≠ 61 ∧ 0 ≤ b64v c ∧ b64v c < 64) :
    Ctr 5 w 137 [.bytes b t] news (fun r nx => (∃ t, r = .bytes (byteArr ((KBw.bInts b).foldl decStep (0, 0, [])).2.2) t) ∧ nx = news) := by
  unfold Ctr
  k_fill
  intro dp un gd cn cs a ccd cl outer A₀ base h₀ L m p loose mean mg mb s Q E B F X N T hk hdp hun hret
  refine wpAny_call ?_
  k_dflt tb_rel
  tb_start
  k_dflt (refine' CtrK.use (a2b_call _ _ _ _ ?kh ?kg) ?k1 ?k2 ?k3 ?k4 ?k5 ?kK ?kd ?ku ?_; (case kh => assumption); (case kg => assumption); (case k1 => k_asm); (case k2 => k_asm); (case k3 => k_asm); (case k4 => k_asm); (case k5 => k_asm); (case kK => first | exact rfl | assumption); (case kd => ktr_room); (case ku => ktr_units))
  intro r9 h' t9 n9 hP9 F' N'
  obtain ⟨⟨tv9, hr9⟩, hn9⟩ := hP9
  subst n9
  subst r9
  try dsimp only
  try k_sweep
  tb_start
  rename Fr _ _ _ _ => eF
  rename News _ _ _ _ => eN
  exact hret _ _ _ _ ⟨⟨_, rfl⟩, rfl⟩ eF eN
local macro_rules | `(tactic| walk_at "subscriptTail") => `(tactic| (k_here; (with_reducible show wpAny _ _ (subscriptTail _ _ (Value.ref _) (Value.int _ _)) _ _ _); k_dflt (refine i_sub (by k_asm) (by k_mem) (by omega) (by omega) (by omega) ?_)))
local macro_rules | `(tactic| walk_at "call builtin:len") => `(tactic| (k_here; (with_reducible show wpAny _ _ (call _ [Value.ref _]) _ _ _); k_dflt (refine i_len (by k_asm) (by k_mem) (by omega) ?_); intro _ _; (try dsimp only)))
local macro_rules | `(tactic| walk_at "subscriptTail") => `(tactic| (k_here; (with_reducible show wpAny _ _ (subscriptTail _ (Expr.Slice none (some _) none _) (Value.ref _) (Value.ref _)) _ _ _); (with_reducible rename Fr _ _ _ _ => F'); (with_reducible rename News _ _ _ _ => N'); (with_unfolding_all refine i_cutTo (s := ⟨_, _, _, _, _⟩) F' N' (by k_mem) (by omega) (by omega) ?_); intro D' l2 h' hl2 F' N' l1; (try k_lt l1)))
local macro_rules | `(tactic| walk_at "subscriptTail") => `(tactic| (k_here; (with_reducible show wpAny _ _ (subscriptTail _ (Expr.Slice none none (some _) _) (Value.ref _) (Value.ref _)) _ _ _); (with_reducible rename Fr _ _ _ _ => F'); (with_reducible rename News _ _ _ _ => N'); (with_unfolding_all refine i_rev (s := ⟨_, _, _, _, _⟩) F' N' (by k_mem) (by omega) ?_); intro D' h' F' N' l1; (try k_lt l1)))
local macro_rules | `(tactic| walk_at "subscriptTail Name Name ref int") => `(tactic| walk_at "subscriptTail")
local macro_rules | `(tactic| walk_at "subscriptTail Name Slice ref ref") => `(tactic| walk_at "subscriptTail")
/-- where the turn at place k goes on to -/
noncomputable def onw (es : List Int) (k : Nat) : Int := ((es.filter fun x => decide (x < es.getD k 0)).length : Int) + (((es.take k).filter fun x => x == es.getD k 0).length : Int)
theorem disj_filter (v : Int) : ∀ l : List Int, (l.filter fun x => decide (x < v)).length + (l.filter fun x => x == v).length ≤ l.length
  | [] => Nat.le_refl _
  | x :: r => by
    have ih := disj_filter v r
    simp only [List.filter_cons, List.length_cons]
    by_cases h1 : x < v
    · have h2 : ¬ x = v := by omega
      simp only [h1, h2, decide_true, if_true, beq_iff_eq, List.length_cons, if_false]
      omega
    · by_cases h2 : x = v
      · simp only [h1, h2, decide_false, beq_self_eq_true, if_true, List.length_cons]
        simp
        omega
      · simp only [h1, h2, decide_false, beq_iff_eq, if_false]
        simp
        omega
theorem onw_range {es : List Int} {k : Nat} (hk : k < es.length) : 0 ≤ onw es k ∧ onw es k < es.length := by
  refine ⟨by unfold onw; omega, ?_⟩
  unfold onw
  have e : es = es.take k ++ es.getD k 0 :: es.drop (k + 1) := by
    have h1 : es.getD k 0 = es[k] := by simp [hk]
    rw [h1, ← List.drop_eq_getElem_cons hk, List.take_append_drop]
  have h1 : (es.filter fun x => decide (x < es.getD k 0)).length = ((es.take k).filter fun x => decide (x < es.getD k 0)).length + ((es.drop (k + 1)).filter fun x => decide (x < es.getD k 0)).length := by
    conv => lhs; rw [e]
    rw [List.filter_append, List.length_append, List.filter_cons]
    have hn : ¬ ((es.take k ++ es.getD k 0 :: es.drop (k + 1)).getD k 0 < (es.take k ++ es.getD k 0 :: es.drop (k + 1)).getD k 0) := Int.lt_irrefl _
    rw [← e] at hn ⊢
    simp
  have h2 := disj_filter (es.getD k 0) (es.take k)
  have h3 := List.length_filter_le (fun x => decide (x < es.getD k 0)) (es.drop (k + 1))
  rw [List.length_take] at h2
  rw [List.length_drop] at h3
  omega
/-- j signs from place i on -/
noncomputable def tgo (es on : List Int) : Nat → Nat → List Int
  | 0, _ => []
  | j + 1, i => es.getD i 0 :: tgo es on j (on.getD i 0).toNat
theorem tgo_step {es on : List Int} {n p i : Nat} (h : p < n) : tgo es on (n - p) i = es.getD i 0 :: tgo es on (n - (p + 1)) (on.getD i 0).toNat := by
  rw [show n - p = (n - (p + 1)) + 1 by omega]
  rfl
theorem getD_mem {l : List IT} {j : Nat} (h : j < l.length) : (l.getD j (0, 0)).1 ∈ l.map (·.1) := by
  have e : l.getD j (0, 0) = l[j] := by simp [h]
  rw [e]
  exact List.mem_map.mpr ⟨_, List.getElem_mem h, rfl⟩
noncomputable def onL (es : List Int) : List Int := (List.range es.length).map (onw es)
noncomputable def toldRow (es : List Int) (k : Nat) : Array UInt8 := byteArr (tgo es (onL es) es.length k).reverse
theorem told_call (w : World) (D : Addr) (l : List IT) (n : Nat) (rest : List (Addr × Obj)) (hl : l.length ≤ 20) (hes : ∀ x ∈ l.map (·.1), 0 ≤ x ∧ x < 256) :
    Ctr 3 w 168 [.ref D] ((D, ilist l n) :: rest) (fun r nx => ∃ D' rows nn, r = .ref D' ∧ nx = (D', blist rows nn) :: (D, ilist l n) :: rest ∧ rows.map (·.1) = (List.range l.length).map (toldRow (l.map (·.1))) ∧ ∀ p ∈ (D, ilist l n) :: rest, p.1 ≠ D') := by
  unfold Ctr
  k_fill
  intro dp un gd cn cs a ccd cl outer A₀ base h₀ L m p loose mean mg mb s Q E B F X N T hk hdp hun hret
  refine wpAny_call ?_
  k_dflt ktr_rel
  tb_start
  refine wpAny_For ?_ (by intro _; rfl)
  tb_start
  rename Fr _ _ _ _ => lF
  rename News _ _ _ _ => lN
  rename IsRange _ _ _ _ _ _ _ _ => hR
  rename_i g1 L1 _ _ FG B1 X1 T1 hL1 ok oe dk de O _ hO _ FO NO _ _ h1 _ _ _ _ _
  have de' : oe.data = .cell (some (.ref D)) := de
  have dk' : ok.data = .cell none := dk
  clear FO NO de dk
  have hrO : ∀ p ∈ rest, p.1 ≠ O := fun p hp => Nat.ne_of_lt (allLt_mem hO.2.2.2 p hp)
  have hrL : ∀ p ∈ rest, p.1 < L1 := allLt_mem hL1.2
  have hrk : ∀ p ∈ rest, p.1 ≠ L1 + 1 + 1 := fun p hp => neN (by have := ltN (hrL p hp); omega)
  have hre : ∀ p ∈ rest, p.1 ≠ L1 + 1 := fun p hp => neN (by have := ltN (hrL p hp); omega)
  have hDL : @LT.lt Nat _ D L1 := hL1.1
  k_dflt (refine' forK (σ := List IT × Obj × Option Value) (fun c => (O, ilist c.1 c.1.length) :: (L1 + 1 + 1, c.2.1) :: (L1 + 1, oe) :: (D, ilist l n) :: rest) (fun _ => []) [Str.ofString "less"]
            (fun i c => c.1.map (·.1) = (List.range i).map (onw (l.map (·.1))) ∧ c.2.1.data = .cell c.2.2) ([], ok, none) ?k1 hR ?kn ?kF ?kN ?kk ?kp ?turn ?done)
  case k1 => rfl
  case kn => omega
  case kF => exact lF
  case kN => exact lN
  case kk => exact fun _ h => nomatch h
  case kp => exact ⟨rfl, dk'⟩
  case turn =>
    intro c i I t u h tk hi hP hoff F1 N1
    clear lF lN
    obtain ⟨lo, ok2, vk⟩ := c
    dsimp only [kstB] at *
    obtain ⟨hlo, dk2⟩ := hP
    clear dk'
    have hI1 : @Ne Nat O I := hoff _ (.head _)
    have hI2 : @Ne Nat (L1 + 1 + 1) I := hoff _ (.tail _ (.head _))
    have hI3 : @Ne Nat (L1 + 1) I := hoff _ (.tail _ (.tail _ (.head _)))
    have hI4 : @Ne Nat D I := hoff _ (.tail _ (.tail _ (.tail _ (.head _))))
    have hIr : ∀ p ∈ rest, p.1 ≠ I := fun p hp => hoff p (.tail _ (.tail _ (.tail _ (.tail _ hp))))
    obtain ⟨hO1, hO2, hO3, _⟩ := hO
    tb_start
    rename Fr _ _ _ _ => cF
    rename News _ _ _ _ => cN
    k_dflt (refine' LCt.ListComp_T cF (by with_unfolding_all rfl) (by decide) (by rfl) (by decide) (by rfl) ?_)
    tb_start
    rename Fr _ _ _ _ => cF
    rename News _ _ _ _ => cN
    k_dflt (refine' LCt.CompSrcT.ledger (by rfl) cF cN (by k_mem) ?ksz ?_)
    case ksz => rw [List.size_toArray, ivs_length, sizeLine_eq]; omega
    intro g
    have hsz : (ivs l).toArray.size = l.length := by rw [List.size_toArray, ivs_length]
    rw [hsz]
    refine compT_ind (n := l.length) (fun j ys nx => nx = _ ∧ ∃ ls : List IT, ys = ivs ls ∧ ls.map (·.1) = ((l.map (·.1)).take j).filter (fun x => decide (x < (l.map (·.1)).getD i 0))) ?step ?fin l.length 0 [] _ (by omega) ⟨rfl, [], rfl, rfl⟩
    case step =>
      intro j ys nx v I2 oI2 C oC D2 m₂ h tk E' hj hJ hPv hC hx F3 N3 off ne
      obtain ⟨rfl, ls, rfl, hls⟩ := hJ
      have hv : v = .int (l.getD j (0, 0)).1 (l.getD j (0, 0)).2 := by
        have h9 := ivs_get hj
        rw [show (ivs l).toArray[j]? = (ivs l)[j]? by simp, h9] at hPv
        exact (Option.some.inj hPv).symm
      subst hv
      try clear cF
      try clear cN
      have hjm : j < (l.map (·.1)).length := by rw [List.length_map]; exact hj
      tb_start
      · rename (_ < _) => hlt
        refine ⟨h, _, _, rfl, F3, N3, off, .inr ⟨_, by k_mem, rfl, _, rfl⟩, rfl, ls ++ [((l.getD j (0, 0)).1, (l.getD j (0, 0)).2)], by simp [ivs, iv], ?_⟩
        rw [filter_take hjm, List.map_append, hls, map_getD, map_getD, if_pos (by rw [Int.toNat_natCast] at hlt; exact decide_eq_true hlt)]
        rfl
      · rename (¬ _ < _) => hlt
        refine ⟨h, _, _, rfl, F3, N3, off, .inr ⟨_, by k_mem, rfl, _, rfl⟩, rfl, ls, rfl, ?_⟩
        rw [filter_take hjm, hls, map_getD, map_getD, if_neg (by rw [Int.toNat_natCast] at hlt; simpa using hlt), List.append_nil]
    case fin =>
      rintro ys nx ⟨rfl, ls, rfl, hls⟩
      have hlm : l.length = (l.map (·.1)).length := by rw [List.length_map]
      rw [hlm, List.take_length] at hls
      have hlen1 : ls.length = ((l.map (·.1)).filter (fun x => decide (x < (l.map (·.1)).getD i 0))).length := by rw [← hls, List.length_map]
      have hlen2 : ls.length ≤ 20 := by
        have := List.length_filter_le (fun x => decide (x < (l.map (·.1)).getD i 0)) (l.map (·.1))
        omega
      unfold LCg.FinE
      intro D3 h3 tk3 F3 N3 o3
      rw [lst_ivs] at N3
      simp only [LCg.Off1, and_true] at o3
      try clear cF
      try clear cN
      tb_start
      rename Fr _ _ _ _ => cF
      rename News _ _ _ _ => cN
      k_dflt (refine' LCt.ListComp_T cF (by with_unfolding_all rfl) (by decide) (by rfl) (by decide) (by rfl) ?_)
      tb_start
      rename_i D4 l2 h4 hl2 F4 N4 hD4
      rw [Int.toNat_natCast] at hl2
      have hl2len : l2.length ≤ 20 := by
        have h9 : (l2.map (·.1)).length = ((l.map (·.1)).take i).length := by rw [hl2]
        rw [List.length_map, List.length_take] at h9
        omega
      k_dflt (refine' LCt.CompSrcT.ledger (by rfl) F4 N4 (by k_mem) ?ksz2 ?_)
      case ksz2 => rw [List.size_toArray, ivs_length, sizeLine_eq]; omega
      intro g2
      have hsz2 : (ivs l2).toArray.size = l2.length := by rw [List.size_toArray, ivs_length]
      rw [hsz2]
      refine compT_ind (n := l2.length) (fun j ys nx => nx = _ ∧ ∃ lz : List IT, ys = ivs lz ∧ lz.map (·.1) = ((l2.map (·.1)).take j).filter (fun x => x == (l.map (·.1)).getD i 0)) ?step2 ?fin2 l2.length 0 [] _ (by omega) ⟨rfl, [], rfl, rfl⟩
      case step2 =>
        intro j ys nx v I2 oI2 C oC D2 m₂ h tk E' hj hJ hPv hC hx F5 N5 off ne
        obtain ⟨rfl, lz, rfl, hlz⟩ := hJ
        have hv : v = .int (l2.getD j (0, 0)).1 (l2.getD j (0, 0)).2 := by
          have h9 := ivs_get hj
          rw [show (ivs l2).toArray[j]? = (ivs l2)[j]? by simp, h9] at hPv
          exact (Option.some.inj hPv).symm
        subst hv
        try clear cF
        try clear cN
        try clear F4
        try clear N4
        have hjm : j < (l2.map (·.1)).length := by rw [List.length_map]; exact hj
        tb_start
        · rename (_ = _) => heq
          refine ⟨h, _, _, rfl, F5, N5, off, .inr ⟨_, by k_mem, rfl, _, rfl⟩, rfl, lz ++ [((l2.getD j (0, 0)).1, (l2.getD j (0, 0)).2)], by simp [ivs, iv], ?_⟩
          rw [filter_take hjm, List.map_append, hlz, map_getD, map_getD, if_pos (by rw [Int.toNat_natCast] at heq; exact beq_iff_eq.mpr heq)]
          rfl
        · rename (_ ≠ _) => heq
          refine ⟨h, _, _, rfl, F5, N5, off, .inr ⟨_, by k_mem, rfl, _, rfl⟩, rfl, lz, rfl, ?_⟩
          rw [filter_take hjm, hlz, map_getD, map_getD, if_neg (by rw [Int.toNat_natCast] at heq; simpa using heq), List.append_nil]
      case fin2 =>
        rintro ys nx ⟨rfl, lz, rfl, hlz⟩
        have hlm2 : l2.length = (l2.map (·.1)).length := by rw [List.length_map]
        rw [hlm2, List.take_length, hl2] at hlz
        have hlen3 : lz.length = (((l.map (·.1)).take i).filter (fun x => x == (l.map (·.1)).getD i 0)).length := by rw [← hlz, List.length_map]
        have hlen4 : lz.length ≤ 20 := by
          have := List.length_filter_le (fun x => x == (l.map (·.1)).getD i 0) ((l.map (·.1)).take i)
          rw [List.length_take] at this
          omega
        have hlol : lo.length = i := by
          have h9 : (lo.map (·.1)).length = ((List.range i).map (onw (l.map (·.1)))).length := by rw [hlo]
          simpa using h9
        unfold LCg.FinE
        intro D5 h5 tk5 F5 N5 o5
        rw [lst_ivs] at N5
        simp only [LCg.Off1, and_true] at o5
        try clear cF
        try clear cN
        try clear F4
        try clear N4
        rename (_ = Data.cell (some (Value.int _ _))) => dk3
        tb_start
        rename Fr _ _ _ _ => eF
        rename News _ _ _ _ => eN
        have e9 : ∀ p : IT, ilist (lo ++ [p]) (lo.length + 1) = ilist (lo ++ [p]) (lo ++ [p]).length := fun p => by rw [List.length_append]; rfl
        rw [e9] at eN
        refine forEndK (_, _, _) eF eN (by k_mem) (fun p hp => .tail _ (.tail _ (.tail _ (.tail _ hp)))) ?_ (fun _ h => nomatch h) (by ksw_same) ⟨?_, dk3⟩
        · intro p hp
          rcases List.mem_cons.mp hp with rfl | hp
          · exact hI1
          · rcases List.mem_cons.mp hp with rfl | hp
            · exact hI2
            · rcases List.mem_cons.mp hp with rfl | hp
              · exact hI3
              · rcases List.mem_cons.mp hp with rfl | hp
                · exact hI4
                · exact hIr p hp
        · rw [range_snoc, List.map_append, hlo]
          show _ ++ [(ls.length : Int) + (lz.length : Int)] = _
          rw [hlen1, hlen3]
          rfl
  case done =>
    intro c u h tk hP F1 N1
    clear lF lN
    obtain ⟨lo, ok2, vk⟩ := c
    dsimp only [kstB] at *
    obtain ⟨hlo, dk2⟩ := hP
    clear dk'
    have hlol : lo.length = l.length := by
      have h9 : (lo.map (·.1)).length = ((List.range l.length).map (onw (l.map (·.1)))).length := by rw [hlo]
      simpa using h9
    try k_fold
    tb_start
    refine wpAny_For ?_ (by intro _; rfl)
    tb_start
    rename Fr _ _ _ _ => lF
    rename News _ _ _ _ => lN
    rename IsRange _ _ _ _ _ _ _ _ => hR2
    rename_i R _ _ _ hR1 _ FR NR _ _ h2 _ _ _ _ _
    try clear FR
    try clear NR
    have hrR : ∀ p ∈ rest, p.1 ≠ R := fun p hp => Nat.ne_of_lt (allLt_mem hR1.2.2.2.2 p hp)
    k_dflt (refine' forK (σ := List BT × Obj × Option Value) (fun c => (R, blist c.1 c.1.length) :: (O, ilist lo lo.length) :: (L1 + 1 + 1, c.2.1) :: (L1 + 1, oe) :: (D, ilist l n) :: rest) (fun _ => []) [Str.ofString "row", Str.ofString "at", Str.ofString "turn"]
              (fun i c => c.1.map (·.1) = (List.range i).map (toldRow (l.map (·.1))) ∧ c.2.1.data = .cell c.2.2) ([], ok2, vk) ?k1 hR2 ?kn ?kF ?kN ?kk ?kp ?turn ?done)
    case k1 => rfl
    case kn => omega
    case kF => exact lF
    case kN => exact lN
    case kk => exact fun _ h => nomatch h
    case kp => exact ⟨rfl, dk2⟩
    case turn =>
      intro c i I t u h tk hi hP hoff F1 N1
      clear lF lN
      obtain ⟨rw, ok4, vk4⟩ := c
      dsimp only [kstB] at *
      obtain ⟨hrw, dk4⟩ := hP
      have hI0 : @Ne Nat R I := hoff _ (.head _)
      have hI1 : @Ne Nat O I := hoff _ (.tail _ (.head _))
      have hI2 : @Ne Nat (L1 + 1 + 1) I := hoff _ (.tail _ (.tail _ (.head _)))
      have hI3 : @Ne Nat (L1 + 1) I := hoff _ (.tail _ (.tail _ (.tail _ (.head _))))
      have hI4 : @Ne Nat D I := hoff _ (.tail _ (.tail _ (.tail _ (.tail _ (.head _)))))
      have hIr : ∀ p ∈ rest, p.1 ≠ I := fun p hp => hoff p (.tail _ (.tail _ (.tail _ (.tail _ (.tail _ hp)))))
      obtain ⟨hO1, hO2, hO3, _⟩ := hO
      obtain ⟨hR3, hR4, hR5, hR6, _⟩ := hR1
      tb_start
      rename_i o3 d3 _ W _ hW _ _ FW NW _ _ h6 _ _ _ _ hR7 lF3 lN3 _
      try clear FW
      try clear NW
      obtain ⟨hW0, hW1, hW2, hW3, hW4, hW5, hW6⟩ := hW
      have hrW : ∀ p ∈ rest, p.1 ≠ W := fun p hp => Nat.ne_of_lt (allLt_mem hW6 p hp)
      obtain ⟨hsm3, hsz3⟩ := range_small (n := l.length) (by omega)
      have hon : lo.map (·.1) = onL (l.map (·.1)) := by rw [hlo]; unfold onL; rw [List.length_map]
      k_dflt (refine' kst_range (σ := List IT × Nat × Tok) (fun c => (W, ilist c.1 c.1.length) :: (I, riAt l.length (i + 1)) :: (R, blist rw rw.length) :: (O, ilist lo lo.length) :: (L1 + 1 + 1, o3) :: (L1 + 1, oe) :: (D, ilist l n) :: rest) (fun c => [(Str.ofString "at", .int (c.2.1 : Int) c.2.2)]) (fun _ => True) []
                (fun pre c => c.1.map (·.1) ++ tgo (l.map (·.1)) (lo.map (·.1)) (l.length - pre.length) c.2.1 = tgo (l.map (·.1)) (lo.map (·.1)) l.length i ∧ c.2.1 < l.length ∧ c.1.length = pre.length ∧ (∀ x ∈ c.1.map (·.1), 0 ≤ x ∧ x < 256)) ([], i, _) ?q1 hR7 hsm3 hsz3 ?qF ?qN ?qf ?qk ?qp ?turn3 ?done3)
      case q1 => rfl
      case qF => exact lF3
      case qN => exact lN3
      case qf => trivial
      case qk => kst_all
      case qp => exact ⟨rfl, hi, rfl, fun _ h => nomatch h⟩
      case turn3 =>
        intro c pre k tk1 u h tk own hk1 hlt hoff3 _ hP F1 N1
        clear lF3 lN3
        obtain ⟨lr, at1, ta⟩ := c
        dsimp only [kstB] at *
        obtain ⟨hq1, hq2, hq3, hq4⟩ := hP
        simp only [List.cons_append] at N1
        have hneW : ∀ p ∈ rest ++ own, p.1 ≠ W := fun p hp => (List.mem_append.mp hp).elim (hrW p) fun h9 => hoff3 p h9 W (List.mem_cons_self ..)
        have hgo := onw_range (es := l.map (·.1)) (k := at1) (by rw [List.length_map]; exact hq2)
        have hat : (lo.getD at1 (0, 0)).1 = onw (l.map (·.1)) at1 := by
          rw [← map_getD, hlo]
          simp [hq2]
        rw [List.length_map] at hgo
        try k_fold
        tb_start
        rename Fr _ _ _ _ => eF
        rename News _ _ _ _ => eN
        have e9 : ∀ p : IT, ilist (lr ++ [p]) (lr.length + 1) = ilist (lr ++ [p]) (lr ++ [p]).length := fun p => by rw [List.length_append]; rfl
        rw [e9] at eN
        have e8 : (lo.getD at1 (0, 0)).1 = (((onw (l.map (·.1)) at1).toNat : Nat) : Int) := by rw [hat]; omega
        simp only [Int.toNat_natCast] at eN eF
        rw [e8] at eF
        refine kst_end (lr ++ [((l.getD at1 (0, 0)).1, (l.getD at1 (0, 0)).2)], (onw (l.map (·.1)) at1).toNat, _) eF eN (fun p hp => ?_) (fun p hp => ?_) rfl trivial (by kst_all) (by kst_same) ⟨?_, ?_, ?_, ?_⟩
        · rcases List.mem_cons.mp hp with rfl | hp
          · exact .head _
          · rcases List.mem_cons.mp hp with rfl | hp
            · exact .tail _ (.head _)
            · rcases List.mem_cons.mp hp with rfl | hp
              · exact .tail _ (.tail _ (.head _))
              · rcases List.mem_cons.mp hp with rfl | hp
                · exact .tail _ (.tail _ (.tail _ (.head _)))
                · rcases List.mem_cons.mp hp with rfl | hp
                  · exact .tail _ (.tail _ (.tail _ (.tail _ (.head _))))
                  · rcases List.mem_cons.mp hp with rfl | hp
                    · exact .tail _ (.tail _ (.tail _ (.tail _ (.tail _ (.head _)))))
                    · rcases List.mem_cons.mp hp with rfl | hp
                      · exact .tail _ (.tail _ (.tail _ (.tail _ (.tail _ (.tail _ (.head _))))))
                      · exact .tail _ (.tail _ (.tail _ (.tail _ (.tail _ (.tail _ (.tail _ (List.mem_append.mpr (.inl hp))))))))
        · exact .tail _ (.tail _ (.tail _ (.tail _ (.tail _ (.tail _ (.tail _ (List.mem_append.mpr (.inr hp))))))))
        · rw [← hq1, tgo_step hlt, map_getD, map_getD, hat]
          show (lr ++ [((l.getD at1 (0, 0)).1, (l.getD at1 (0, 0)).2)]).map (·.1) ++ tgo (l.map (·.1)) (lo.map (·.1)) (l.length - (pre ++ [k]).length) (onw (l.map (·.1)) at1).toNat = _
          rw [List.length_append, List.map_append, List.append_assoc]
          rfl
        · show (onw (l.map (·.1)) at1).toNat < l.length
          omega
        · rw [List.length_append, List.length_append, hq3]
          rfl
        · intro x hx
          simp only [List.map_append, List.mem_append, List.map_cons, List.map_nil, List.mem_singleton] at hx
          rcases hx with hx | hx
          · exact hq4 x hx
          · subst hx
            exact hes _ (getD_mem hq2)
      case done3 =>
        intro c u h tk _ hP F1 N1
        clear lF3 lN3
        obtain ⟨lr, at1, ta⟩ := c
        dsimp only [kstB] at *
        obtain ⟨hq1, hq2, hq3, hq4⟩ := hP
        rw [rangeKs_length] at hq1 hq3
        rw [Nat.sub_self] at hq1
        have hrow : lr.map (·.1) = tgo (l.map (·.1)) (lo.map (·.1)) l.length i := by rw [← hq1]; simp [tgo]
        have hrev : ∀ x ∈ lr.reverse.map (·.1), 0 ≤ x ∧ x < 256 := fun x hx => hq4 x (by rw [List.map_reverse, List.mem_reverse] at hx; exact hx)
        have hrwl : rw.length = i := by
          have h9 : (rw.map (·.1)).length = ((List.range i).map (toldRow (l.map (·.1)))).length := by rw [hrw]
          simpa using h9
        have hrl : lr.reverse.length = l.length := by rw [List.length_reverse]; exact hq3
        try k_fold
        tb_start
        rename Fr _ _ _ _ => eF
        rename News _ _ _ _ => eN
        have e9 : ∀ p : BT, blist (rw ++ [p]) (rw.length + 1) = blist (rw ++ [p]) (rw ++ [p]).length := fun p => by rw [List.length_append]; rfl
        rw [e9] at eN
        have hbr : byteArr (lr.reverse.map (·.1)) = toldRow (l.map (·.1)) i := by
          unfold toldRow
          rw [List.map_reverse, hrow, List.length_map, hon]
        refine forEndK (_, _, _) eF eN (by k_mem) (fun p hp => .tail _ (.tail _ (.tail _ hp))) ?_ (fun _ h => nomatch h) (by ksw_same) ⟨?_, d3⟩
        · intro p hp
          rcases List.mem_cons.mp hp with rfl | hp
          · exact hI0
          · rcases List.mem_cons.mp hp with rfl | hp
            · exact hI1
            · rcases List.mem_cons.mp hp with rfl | hp
              · exact hI2
              · rcases List.mem_cons.mp hp with rfl | hp
                · exact hI3
                · rcases List.mem_cons.mp hp with rfl | hp
                  · exact hI4
                  · exact hIr p hp
        · rw [range_snoc, List.map_append, hrw]
          show _ ++ [byteArr (lr.reverse.map (·.1))] = _
          rw [hbr]
    case done =>
      intro c u h tk hP F1 N1
      clear lF lN
      obtain ⟨rw, ok4, vk4⟩ := c
      dsimp only [kstB] at *
      obtain ⟨hrw, dk4⟩ := hP
      try k_fold
      tb_start
      rename Fr _ _ _ _ => eF
      rename News _ _ _ _ => eN
      refine hret _ _ _ _ ⟨R, rw, rw.length, rfl, rfl, hrw, ?_⟩ eF (fun p hp => ?_)
      · intro p hp
        rcases List.mem_cons.mp hp with rfl | hp
        · exact Nat.ne_of_lt hR1.2.2.2.1
        · exact hrR p hp
      · rcases List.mem_cons.mp hp with rfl | hp
        · exact eN _ (.head _)
        · exact eN _ (.tail _ (.tail _ (.tail _ (.tail _ hp))))
open PySem PySem.W PyProof.Rows PySem.Calls
set_option Elab.async false
set_option maxRecDepth 100000
set_option maxHeartbeats 4000000
open PySem.Builtin
/-! the order of octets -/
theorem ord_eq : ∀ {a b : List UInt8}, Bytes.order a b = .eq → a = b
  | [], [], _ => rfl
  | [], _ :: _, h => by cases h
  | _ :: _, [], h => by cases h
  | x :: a, y :: b, h => by
    simp only [Bytes.order] at h
    by_cases h1 : x < y
    · rw [if_pos h1] at h; cases h
    · rw [if_neg h1] at h
      by_cases h2 : x > y
      · rw [if_pos h2] at h; cases h
      · rw [if_neg h2] at h
        rw [ord_eq h, UInt8.le_antisymm (UInt8.not_lt.mp h2) (UInt8.not_lt.mp h1)]
theorem ord_swap : ∀ (a b : List UInt8), Bytes.order a b = .lt ↔ Bytes.order b a = .gt
  | [], [] => by simp [Bytes.order]
  | [], _ :: _ => by simp [Bytes.order]
  | _ :: _, [] => by simp [Bytes.order]
  | x :: a, y :: b => by
    simp only [Bytes.order]
    by_cases h1 : x < y
    · have h2 : ¬ y < x := fun h => UInt8.lt_irrefl x (UInt8.lt_trans h1 h)
      simp [h1, h2]
    · by_cases h2 : y < x
      · simp [h1, h2]
      · simp [h1, h2, ord_swap a b]
theorem ord_trans : ∀ {a b c : List UInt8}, Bytes.order a b = .lt → Bytes.order b c = .lt → Bytes.order a c = .lt
  | [], [], _, h, _ => by cases h
  | [], _ :: _, [], _, h => by cases h
  | [], _ :: _, _ :: _, _, _ => rfl
  | _ :: _, [], _, h, _ => by cases h
  | _ :: _, _ :: _, [], _, h => by cases h
  | x :: a, y :: b, z :: c, h1, h2 => by
    simp only [Bytes.order] at h1 h2 ⊢
    by_cases a1 : x < y
    · by_cases b1 : y < z
      · rw [if_pos (UInt8.lt_trans a1 b1)]
      · rw [if_neg b1] at h2
        by_cases b2 : y > z
        · rw [if_pos b2] at h2; cases h2
        · have e : y = z := UInt8.le_antisymm (UInt8.not_lt.mp b2) (UInt8.not_lt.mp b1)
          rw [if_pos (e ▸ a1)]
    · rw [if_neg a1] at h1
      by_cases a2 : x > y
      · rw [if_pos a2] at h1; cases h1
      · rw [if_neg a2] at h1
        have e : x = y := UInt8.le_antisymm (UInt8.not_lt.mp a2) (UInt8.not_lt.mp a1)
        subst e
        by_cases b1 : x < z
        · rw [if_pos b1]
        · rw [if_neg b1] at h2 ⊢
          by_cases b2 : x > z
          · rw [if_pos b2] at h2; cases h2
          · rw [if_neg b2] at h2 ⊢
            exact ord_trans h1 h2
theorem ord_refl : ∀ a : List UInt8, Bytes.order a a = .eq
  | [] => rfl
  | x :: a => by
    simp only [Bytes.order]
    have h : ¬ x < x := UInt8.lt_irrefl x
    rw [if_neg h, if_neg h, ord_refl a]
/-- not greater -/
noncomputable def ble (a b : Array UInt8) : Prop := blt b a = false
theorem blt_def {a b : Array UInt8} : blt a b = true ↔ Bytes.order a.toList b.toList = .lt := by
  unfold blt; exact beq_iff_eq
theorem blt_false {a b : Array UInt8} : blt a b = false ↔ Bytes.order a.toList b.toList ≠ .lt := by
  rw [← Bool.not_eq_true, blt_def]
theorem ble_refl (a : Array UInt8) : ble a a := blt_false.mpr (by rw [ord_refl]; decide)
theorem ble_of_blt {a b : Array UInt8} (h : blt a b = true) : ble a b := blt_false.mpr fun h2 => by
  have h1 := (ord_swap _ _).mp (blt_def.mp h)
  rw [h1] at h2; cases h2
theorem ble_total (a b : Array UInt8) : ble a b ∨ ble b a := by
  by_cases h : blt a b = true
  · exact .inl (ble_of_blt h)
  · exact .inr (by unfold ble; exact Bool.eq_false_iff.mpr h)
theorem ble_iff {a b : Array UInt8} : ble a b ↔ blt a b = true ∨ a = b := by
  constructor
  · intro h
    have h1 := blt_false.mp h
    cases ho : Bytes.order a.toList b.toList with
    | lt => exact .inl (blt_def.mpr ho)
    | eq => exact .inr (Array.toList_inj.mp (ord_eq ho))
    | gt => exact absurd ((ord_swap _ _).mpr ho) h1
  · rintro (h | h)
    · exact ble_of_blt h
    · exact h ▸ ble_refl a
theorem blt_trans {a b c : Array UInt8} (h1 : blt a b = true) (h2 : blt b c = true) : blt a c = true := blt_def.mpr (ord_trans (blt_def.mp h1) (blt_def.mp h2))
theorem ble_trans {a b c : Array UInt8} (h1 : ble a b) (h2 : ble b c) : ble a c := by
  rcases ble_iff.mp h1 with h1 | rfl
  · rcases ble_iff.mp h2 with h2 | rfl
    · exact ble_of_blt (blt_trans h1 h2)
    · exact ble_of_blt h1
  · exact h2
theorem ble_antisymm {a b : Array UInt8} (h1 : ble a b) (h2 : ble b a) : a = b := by
  rcases ble_iff.mp h1 with h | h
  · rw [ble] at h2; rw [h] at h2; cases h2
  · exact h
open PySem PySem.W PyProof.Rows PySem.Calls
set_option Elab.async false
set_option maxRecDepth 100000
set_option maxHeartbeats 4000000
/-! the heap, in plain lists -/
noncomputable abbrev gt (l : List BT) (i : Nat) : Array UInt8 := (l.getD i bnil).1
/-- every pair of parent and child with the parent at s or behind is in order -/
noncomputable def HeapFrom (l : List BT) (s : Nat) : Prop := ∀ c, 0 < c → c < l.length → s ≤ (c - 1) / 2 → ble (gt l ((c - 1) / 2)) (gt l c)
inductive Desc (s : Nat) : Nat → Prop
  | refl : Desc s s
  | child {p c : Nat} : Desc s p → 0 < c → (c - 1) / 2 = p → Desc s c
theorem Desc.le {s p : Nat} (h : Desc s p) : s ≤ p := by
  induction h with
  | refl => exact Nat.le_refl _
  | child _ h0 e ih => omega
theorem Desc.up {s p : Nat} (h : Desc s p) (hlt : s < p) : Desc s ((p - 1) / 2) ∧ s ≤ (p - 1) / 2 := by
  cases h with
  | refl => exact absurd hlt (Nat.lt_irrefl _)
  | child h' h0 e => subst e; exact ⟨h', h'.le⟩
theorem gt_set {l : List BT} {i j : Nat} {x : BT} (hi : i < l.length) : gt (l.set i x) j = if i = j then x.1 else gt l j := by
  unfold gt
  by_cases h : i = j
  · subst h; simp [hi]
  · rw [if_neg h]
    simp [List.getD_eq_getElem?_getD, List.getElem?_set_ne h]
theorem getD_set {l : List BT} {i j : Nat} {x : BT} (hi : i < l.length) : (l.set i x).getD j bnil = if i = j then x else l.getD j bnil := by
  by_cases h : i = j
  · subst h; simp [hi]
  · rw [if_neg h]
    simp [List.getD_eq_getElem?_getD, List.getElem?_set_ne h]
/-- the siftdown's invariant: in order but for the hole at p -/
structure Hole (nw : BT) (sp : Nat) (l : List BT) (p : Nat) : Prop where
  inB : p < l.length
  desc : Desc sp p
  rest : ∀ c, 0 < c → c < l.length → sp ≤ (c - 1) / 2 → c ≠ p → (c - 1) / 2 ≠ p → ble (gt l ((c - 1) / 2)) (gt l c)
  over : ∀ c, 0 < c → c < l.length → (c - 1) / 2 = p → sp < p → ble (gt l ((p - 1) / 2)) (gt l c)
  new : ∀ c, 0 < c → c < l.length → (c - 1) / 2 = p → ble nw.1 (gt l c)
theorem Hole.fill {nw : BT} {sp : Nat} {l : List BT} {p : Nat} (H : Hole nw sp l p) (hup : sp < p → ble (gt l ((p - 1) / 2)) nw.1) : HeapFrom (l.set p nw) sp := by
  intro c h0 hc hs
  rw [List.length_set] at hc
  rw [gt_set H.inB, gt_set H.inB]
  by_cases h1 : p = c
  · subst h1
    rw [if_pos rfl, if_neg (by omega)]
    exact hup (by have := H.desc.le; omega)
  · rw [if_neg h1]
    by_cases h2 : p = (c - 1) / 2
    · rw [if_pos h2]
      exact H.new c h0 hc h2.symm
    · rw [if_neg h2]
      exact H.rest c h0 hc hs (Ne.symm h1) (Ne.symm h2)
theorem Hole.step {nw : BT} {sp : Nat} {l : List BT} {p : Nat} (H : Hole nw sp l p) (hlt : sp < p) (hb : blt nw.1 (gt l ((p - 1) / 2)) = true) :
    Hole nw sp (l.set p (l.getD ((p - 1) / 2) bnil)) ((p - 1) / 2) := by
  obtain ⟨hd, hle⟩ := H.desc.up hlt
  have hpp : (p - 1) / 2 < p := by omega
  have hnw := ble_of_blt hb
  refine ⟨by rw [List.length_set]; exact Nat.lt_trans hpp H.inB, hd, ?_, ?_, ?_⟩
  · intro c h0 hc hs n1 n2
    rw [List.length_set] at hc
    rw [gt_set H.inB, gt_set H.inB]
    by_cases h1 : p = c
    · exact absurd (by rw [← h1]) n2
    · rw [if_neg h1]
      by_cases h2 : p = (c - 1) / 2
      · rw [if_pos h2]
        exact H.over c h0 hc h2.symm hlt
      · rw [if_neg h2]
        exact H.rest c h0 hc hs (Ne.symm h1) (Ne.symm h2)
  · intro c h0 hc e hs
    rw [List.length_set] at hc
    obtain ⟨_, hle2⟩ := hd.up hs
    have h3 : ble (gt l (((p - 1) / 2 - 1) / 2)) (gt l ((p - 1) / 2)) := H.rest _ (by omega) (Nat.lt_trans hpp H.inB) hle2 (by omega) (by omega)
    rw [gt_set H.inB, gt_set H.inB, if_neg (by omega)]
    by_cases h1 : p = c
    · rw [if_pos h1]; exact h3
    · rw [if_neg h1]
      have h4 := H.rest c h0 hc (by omega) (Ne.symm h1) (by omega)
      rw [e] at h4
      exact ble_trans h3 h4
  · intro c h0 hc e
    rw [List.length_set] at hc
    rw [gt_set H.inB]
    by_cases h1 : p = c
    · rw [if_pos h1]; exact hnw
    · rw [if_neg h1]
      have h4 := H.rest c h0 hc (by omega) (Ne.symm h1) (by omega)
      rw [e] at h4
      exact ble_trans hnw h4
theorem sdGo_heap {nw : BT} {sp : Nat} {l : List BT} {p : Nat} (H : Hole nw sp l p) : HeapFrom (sdGo nw sp l p) sp := by
  induction l, p using sdGo.induct (nw := nw) (sp := sp) with
  | case1 l p h hb ih => rw [sdGo, dif_pos h, if_pos hb]; exact ih (H.step h hb)
  | case2 l p h hb =>
    rw [sdGo, dif_pos h, if_neg hb]
    exact H.fill fun _ => by unfold ble; exact Bool.eq_false_iff.mpr hb
  | case3 l p h => rw [sdGo, dif_neg h]; exact H.fill fun h' => absurd h' h
theorem set_swap {l : List BT} {p q : Nat} (nw : BT) (hp : p < l.length) (hq : q < l.length) (hne : p ≠ q) : ((l.set p (l.getD q bnil)).set q nw).Perm (l.set p nw) := by
  have h1 : p < (l.set p nw).length := by rw [List.length_set]; exact hp
  have h2 : q < (l.set p nw).length := by rw [List.length_set]; exact hq
  have h := List.set_set_perm (as := l.set p nw) (i := p) (j := q) h1 h2
  have e1 : (l.set p nw)[q] = l.getD q bnil := by
    rw [List.getElem_set_ne hne]
    simp [hq]
  have e2 : (l.set p nw)[p] = nw := List.getElem_set_self ..
  rw [e1, e2, List.set_set] at h
  exact h
theorem sdGo_perm {nw : BT} {sp : Nat} {l : List BT} {p : Nat} (hp : p < l.length) : (sdGo nw sp l p).Perm (l.set p nw) := by
  induction l, p using sdGo.induct (nw := nw) (sp := sp) with
  | case1 l p h hb ih =>
    rw [sdGo, dif_pos h, if_pos hb]
    exact (ih (by rw [List.length_set]; omega)).trans (set_swap nw hp (by omega) (by omega))
  | case2 l p h hb => rw [sdGo, dif_pos h, if_neg hb]
  | case3 l p h => rw [sdGo, dif_neg h]
theorem suGo_perm {nw : BT} {l : List BT} {p : Nat} (hp : p < l.length) : ((suGo l p).1.set (suGo l p).2 nw).Perm (l.set p nw) ∧ (suGo l p).2 < l.length := by
  induction l, p using suGo.induct with
  | case1 l p h ih =>
    have h1 := suPick_lt (l := l) (c := 2 * p + 1) h
    have h2 := suPick_le l (2 * p + 1)
    have ih' := ih (by rw [List.length_set]; exact h1)
    rw [suGo, dif_pos h]
    refine ⟨ih'.1.trans (set_swap nw hp h1 (by omega)), ?_⟩
    have h3 := ih'.2
    rw [List.length_set] at h3
    exact h3
  | case2 l p h => rw [suGo, dif_neg h]; exact ⟨List.Perm.refl _, hp⟩
theorem set_getD {l : List BT} {p : Nat} (hp : p < l.length) : l.set p (l.getD p bnil) = l := by
  have e : l.getD p bnil = l[p] := by simp [hp]
  rw [e, List.set_getElem_self]
theorem siftup_perm {l : List BT} {s : Nat} (hs : s < l.length) : (siftup l s).Perm l := by
  unfold siftup
  have h := suGo_perm (nw := l.getD s bnil) hs
  have h1 : (suGo l s).2 < ((suGo l s).1.set (suGo l s).2 (l.getD s bnil)).length := by rw [List.length_set, suGo_length]; exact h.2
  refine (sdGo_perm h1).trans ?_
  rw [List.set_set]
  refine h.1.trans ?_
  rw [set_getD hs]
/-- in order but for the hole, on the way down -/
structure Way (sp : Nat) (l : List BT) (p : Nat) : Prop where
  inB : p < l.length
  desc : Desc sp p
  rest : ∀ c, 0 < c → c < l.length → sp ≤ (c - 1) / 2 → c ≠ p → (c - 1) / 2 ≠ p → ble (gt l ((c - 1) / 2)) (gt l c)
  over : ∀ c, 0 < c → c < l.length → (c - 1) / 2 = p → sp < p → ble (gt l ((p - 1) / 2)) (gt l c)
theorem suPick_cases {l : List BT} {p : Nat} (h : 2 * p + 1 < l.length) : (suPick l (2 * p + 1) - 1) / 2 = p ∧ 0 < suPick l (2 * p + 1) ∧ ∀ c, 0 < c → c < l.length → (c - 1) / 2 = p → ble (gt l (suPick l (2 * p + 1))) (gt l c) := by
  have key : ∀ c, 0 < c → (c - 1) / 2 = p → c = 2 * p + 1 ∨ c = 2 * p + 1 + 1 := fun c h0 e => by omega
  unfold suPick
  by_cases h1 : 2 * p + 1 + 1 < l.length
  · rw [if_pos h1]
    by_cases h2 : blt (l.getD (2 * p + 1) bnil).1 (l.getD (2 * p + 1 + 1) bnil).1 = true
    · rw [if_pos h2]
      refine ⟨by omega, by omega, fun c h0 hc e => ?_⟩
      rcases key c h0 e with rfl | rfl
      · exact ble_refl _
      · exact ble_of_blt h2
    · rw [if_neg h2]
      refine ⟨by omega, by omega, fun c h0 hc e => ?_⟩
      rcases key c h0 e with rfl | rfl
      · unfold ble; exact Bool.eq_false_iff.mpr h2
      · exact ble_refl _
  · rw [if_neg h1]
    refine ⟨by omega, by omega, fun c h0 hc e => ?_⟩
    rcases key c h0 e with rfl | rfl
    · exact ble_refl _
    · exact absurd hc h1
theorem Way.step {sp : Nat} {l : List BT} {p : Nat} (W : Way sp l p) (h : 2 * p + 1 < l.length) : Way sp (l.set p (l.getD (suPick l (2 * p + 1)) bnil)) (suPick l (2 * p + 1)) := by
  obtain ⟨e1, e0, hmin⟩ := suPick_cases h
  have hlt := suPick_lt (l := l) (c := 2 * p + 1) h
  have hge := suPick_le l (2 * p + 1)
  generalize suPick l (2 * p + 1) = q at *
  refine ⟨by rw [List.length_set]; exact hlt, .child W.desc e0 e1, ?_, ?_⟩
  · intro c h0 hc hs n1 n2
    rw [List.length_set] at hc
    rw [gt_set W.inB, gt_set W.inB]
    by_cases h1 : p = c
    · rw [if_pos h1, if_neg (by omega)]
      have h3 := W.over q e0 hlt e1 (by omega)
      rw [← h1]; exact h3
    · rw [if_neg h1]
      by_cases h2 : p = (c - 1) / 2
      · rw [if_pos h2]
        exact hmin c h0 hc h2.symm
      · rw [if_neg h2]
        exact W.rest c h0 hc hs (Ne.symm h1) (Ne.symm h2)
  · intro c h0 hc e hs
    rw [List.length_set] at hc
    rw [gt_set W.inB, gt_set W.inB, if_pos e1.symm, if_neg (by omega)]
    have h3 := W.rest c h0 hc (by have := W.desc.le; omega) (by omega) (by omega)
    rw [e] at h3
    exact h3
theorem suGo_way {sp : Nat} {l : List BT} {p : Nat} (W : Way sp l p) : Way sp (suGo l p).1 (suGo l p).2 ∧ (suGo l p).1.length ≤ 2 * (suGo l p).2 + 1 := by
  induction l, p using suGo.induct with
  | case1 l p h ih => rw [suGo, dif_pos h]; exact ih (W.step h)
  | case2 l p h => rw [suGo, dif_neg h]; exact ⟨W, Nat.not_lt.mp h⟩
theorem siftup_heap {l : List BT} {s : Nat} (hs : s < l.length) (H : HeapFrom l (s + 1)) : HeapFrom (siftup l s) s := by
  obtain ⟨W, hleaf⟩ := suGo_way (sp := s) (l := l) (p := s) ⟨hs, .refl, fun c h0 hc h1 n1 n2 => H c h0 hc (by omega), fun _ _ _ _ h => absurd h (Nat.lt_irrefl _)⟩
  unfold siftup
  refine sdGo_heap ⟨by rw [List.length_set]; exact W.inB, W.desc, ?_, ?_, ?_⟩
  · intro c h0 hc h1 n1 n2
    rw [List.length_set] at hc
    rw [gt_set W.inB, gt_set W.inB, if_neg (Ne.symm n2), if_neg (Ne.symm n1)]
    exact W.rest c h0 hc h1 n1 n2
  · intro c h0 hc e
    rw [List.length_set] at hc
    omega
  · intro c h0 hc e
    rw [List.length_set] at hc
    omega
open PySem PySem.W PyProof.Rows PySem.Calls
set_option Elab.async false
set_option maxRecDepth 100000
set_option maxHeartbeats 4000000
theorem heap_min {l : List BT} (H : HeapFrom l 0) : ∀ n i, i < n → i < l.length → ble (gt l 0) (gt l i)
  | 0, _, h, _ => absurd h (Nat.not_lt_zero _)
  | n + 1, i, h, hi => by
    by_cases h0 : i = 0
    · subst h0; exact ble_refl _
    · exact ble_trans (heap_min H n ((i - 1) / 2) (by omega) (by omega)) (H i (by omega) hi (Nat.zero_le _))
theorem heap_le {l : List BT} (H : HeapFrom l 0) {x : BT} (hx : x ∈ l) : ble (gt l 0) x.1 := by
  obtain ⟨i, hi, rfl⟩ := List.getElem_of_mem hx
  have := heap_min H (i + 1) i (Nat.lt_succ_self _) hi
  have e : gt l i = (l[i]).1 := by unfold gt; simp [hi]
  rw [e] at this
  exact this
theorem hfy_heap {l : List BT} (hl : l.length = 12) : ∀ i, i ≤ 6 → HeapFrom (hfyGo l i) (6 - i)
  | 0, _ => fun c h0 hc h1 => by
    have : (hfyGo l 0).length = 12 := hl
    omega
  | i + 1, h => by
    have ih := hfy_heap hl i (by omega)
    have e : 6 - (i + 1) = 5 - i := by omega
    rw [e]
    show HeapFrom (siftup (hfyGo l i) (5 - i)) (5 - i)
    refine siftup_heap (by rw [hfyGo_length, hl]; omega) ?_
    rw [show 5 - i + 1 = 6 - i by omega]
    exact ih
theorem hfy_perm {l : List BT} (hl : l.length = 12) : ∀ i, i ≤ 6 → (hfyGo l i).Perm l
  | 0, _ => List.Perm.refl _
  | i + 1, h => by
    show (siftup (hfyGo l i) (5 - i)).Perm l
    exact (siftup_perm (by rw [hfyGo_length, hl]; omega)).trans (hfy_perm hl i (by omega))
theorem gt_append {l r : List BT} {i : Nat} (h : i < l.length) : gt (l ++ r) i = gt l i := by
  unfold gt
  simp [h, List.getElem?_append_left h]
theorem pop_spec {l : List BT} {q : BT} (H : HeapFrom (l ++ [q]) 0) :
    HeapFrom (popL l q) 0 ∧ (popV l q :: popL l q).Perm (l ++ [q]) ∧ ∀ x ∈ popL l q, ble (popV l q).1 x.1 := by
  unfold popV popL
  by_cases h0 : 0 < l.length
  · rw [if_pos h0, if_pos h0]
    have h0' : 0 < (l.set 0 q).length := by rw [List.length_set]; exact h0
    have hperm : (l.getD 0 bnil :: siftup (l.set 0 q) 0).Perm (l ++ [q]) := by
      refine (List.Perm.cons _ (siftup_perm h0')).trans ?_
      cases l with
      | nil => exact absurd h0 (Nat.lt_irrefl _)
      | cons x r =>
        show (x :: q :: r).Perm (x :: r ++ [q])
        exact List.Perm.cons x (List.perm_append_comm (l₁ := [q]) (l₂ := r))
    refine ⟨siftup_heap h0' ?_, hperm, ?_⟩
    · intro c hc0 hc h1
      rw [List.length_set] at hc
      rw [gt_set h0, gt_set h0, if_neg (by omega), if_neg (by omega)]
      have h2 := H c hc0 (by rw [List.length_append]; omega) (Nat.zero_le _)
      rw [gt_append (by omega), gt_append hc] at h2
      exact h2
    · intro x hx
      have hmem : x ∈ l ++ [q] := hperm.mem_iff.mp (List.mem_cons_of_mem _ hx)
      have h3 := heap_le H hmem
      rw [gt_append h0] at h3
      exact h3
  · have hn : l = [] := List.length_eq_zero_iff.mp (by omega)
    subst hn
    exact ⟨fun c _ hc => absurd hc (Nat.not_lt_zero _), List.Perm.refl _, fun _ h => nomatch h⟩
theorem push_spec {l : List BT} {q : BT} (H : HeapFrom l 0) : HeapFrom (sdGo q 0 (l ++ [q]) l.length) 0 ∧ (sdGo q 0 (l ++ [q]) l.length).Perm (q :: l) := by
  have hlen : (l ++ [q]).length = l.length + 1 := by rw [List.length_append]; rfl
  have desc : ∀ n p, p < n → Desc 0 p := by
    intro n
    induction n with
    | zero => intro p h; exact absurd h (Nat.not_lt_zero _)
    | succ n ih =>
      intro p h
      by_cases h0 : p = 0
      · subst h0; exact .refl
      · exact .child (ih ((p - 1) / 2) (by omega)) (by omega) rfl
  refine ⟨sdGo_heap ⟨by omega, desc _ _ (Nat.lt_succ_self _), ?_, ?_, ?_⟩, ?_⟩
  · intro c h0 hc _ n1 n2
    rw [hlen] at hc
    rw [gt_append (by omega), gt_append (by omega)]
    exact H c h0 (by omega) (Nat.zero_le _)
  · intro c h0 hc e
    rw [hlen] at hc
    omega
  · intro c h0 hc e
    rw [hlen] at hc
    omega
  · refine (sdGo_perm (by omega)).trans ?_
    have e : (l ++ [q]).set l.length q = l ++ [q] := by simp
    rw [e]
    exact List.perm_append_comm (l₁ := l) (l₂ := [q])
/-- popping: what is out, what is still in -/
structure Popping (l₀ out hl : List BT) : Prop where
  heap : HeapFrom hl 0
  perm : (out ++ hl).Perm l₀
  sorted : out.Pairwise fun a b => ble a.1 b.1
  lower : ∀ a ∈ out, ∀ b ∈ hl, ble a.1 b.1
theorem Popping.step {l₀ out l : List BT} {q : BT} (P : Popping l₀ out (l ++ [q])) : Popping l₀ (out ++ [popV l q]) (popL l q) := by
  obtain ⟨h1, h2, h3⟩ := pop_spec P.heap
  have hv : popV l q ∈ l ++ [q] := h2.mem_iff.mp List.mem_cons_self
  refine ⟨h1, ?_, ?_, ?_⟩
  · rw [List.append_assoc]
    exact (List.Perm.append_left out h2).trans P.perm
  · refine List.pairwise_append.mpr ⟨P.sorted, List.pairwise_singleton _ _, ?_⟩
    intro a ha b hb
    rw [List.mem_singleton.mp hb]
    exact P.lower a ha _ hv
  · intro a ha b hb
    rcases List.mem_append.mp ha with ha | ha
    · exact P.lower a ha b (h2.mem_iff.mp (List.mem_cons_of_mem _ hb))
    · rw [List.mem_singleton.mp ha]
      exact h3 b hb
open PySem PySem.W PyProof.Rows PySem.Calls
set_option Elab.async false
set_option maxRecDepth 100000
set_option maxHeartbeats 4000000
open PySem.Builtin
/-! sorted turns are told by their last signs -/
/-- the last sign to the front -/
noncomputable def rotR (r : Array UInt8) : Array UInt8 := (r.toList.getLastD 0 :: r.toList.dropLast).toArray
noncomputable def lastI (r : Array UInt8) : Int := ((r.toList.getLastD 0).toNat : Int)
theorem order_cons (x y : UInt8) (a b : List UInt8) : Bytes.order (x :: a) (y :: b) = .lt ↔ x < y ∨ (x = y ∧ Bytes.order a b = .lt) := by
  simp only [Bytes.order]
  by_cases h1 : x < y
  · simp [h1]
  · by_cases h2 : x > y
    · have h3 : x ≠ y := fun e => by subst e; exact UInt8.lt_irrefl _ h2
      simp [h1, h2, h3]
    · have h3 : x = y := UInt8.le_antisymm (UInt8.not_lt.mp h2) (UInt8.not_lt.mp h1)
      subst h3
      simp [h1]
theorem order_snoc (c : UInt8) : ∀ (a b : List UInt8), a.length = b.length → Bytes.order (a ++ [c]) (b ++ [c]) = Bytes.order a b
  | [], [], _ => by rw [List.nil_append, ord_refl]; rfl
  | [], _ :: _, h => by cases h
  | _ :: _, [], h => by cases h
  | x :: a, y :: b, h => by
    simp only [List.cons_append, Bytes.order]
    rw [order_snoc c a b (by simpa using h)]
theorem last_split {r : Array UInt8} (h : 0 < r.size) : r.toList = r.toList.dropLast ++ [r.toList.getLastD 0] := by
  have h0 : r.toList ≠ [] := by
    intro e
    have : r.toList.length = 0 := by rw [e]; rfl
    rw [Array.length_toList] at this
    omega
  have h1 := List.dropLast_concat_getLast h0
  rw [List.getLastD_eq_getLast?, List.getLast?_eq_some_getLast h0]
  exact h1.symm
theorem rot_lt {r q : Array UInt8} {n : Nat} (hn : 0 < n) (hr : r.size = n) (hq : q.size = n) : blt (rotR r) (rotR q) = true ↔ lastI r < lastI q ∨ (lastI r = lastI q ∧ blt r q = true) := by
  rw [blt_def, blt_def]
  have e1 := last_split (r := r) (by omega)
  have e2 := last_split (r := q) (by omega)
  show Bytes.order (r.toList.getLastD 0 :: r.toList.dropLast) (q.toList.getLastD 0 :: q.toList.dropLast) = .lt ↔ _
  rw [order_cons]
  have hI : lastI r < lastI q ↔ r.toList.getLastD 0 < q.toList.getLastD 0 := by
    unfold lastI
    rw [UInt8.lt_iff_toNat_lt]
    omega
  have hE : lastI r = lastI q ↔ r.toList.getLastD 0 = q.toList.getLastD 0 := by
    unfold lastI
    constructor
    · intro h; exact UInt8.toNat_inj.mp (by omega)
    · intro h; rw [h]
  rw [hI, hE]
  constructor
  · rintro (h | ⟨h, h2⟩)
    · exact .inl h
    · refine .inr ⟨h, ?_⟩
      rw [e1, e2, h, order_snoc _ _ _ (by rw [List.length_dropLast, List.length_dropLast, Array.length_toList, Array.length_toList, hr, hq])]
      exact h2
  · rintro (h | ⟨h, h2⟩)
    · exact .inl h
    · refine .inr ⟨h, ?_⟩
      rw [e1, e2, h, order_snoc _ _ _ (by rw [List.length_dropLast, List.length_dropLast, Array.length_toList, Array.length_toList, hr, hq])] at h2
      exact h2
/-- where an item of a sorted list stands -/
theorem sorted_at {R : List (Array UInt8)} (hs : R.Pairwise ble) {x : Array UInt8} {p : Nat} (hp : p < R.length) (h1 : R.countP (fun r => blt r x) ≤ p) (h2 : p < R.countP (fun r => !blt x r)) : R[p] = x := by
  have e : R = R.take p ++ R[p] :: R.drop (p + 1) := by rw [← List.drop_eq_getElem_cons hp, List.take_append_drop]
  have hs' := hs
  rw [e] at hs'
  obtain ⟨_, hd, hcross⟩ := List.pairwise_append.mp hs'
  have hd' := List.pairwise_cons.mp hd
  refine ble_antisymm ?_ ?_
  · -- R[p] ≤ x
    unfold ble
    cases hb : blt x R[p] with
    | false => rfl
    | true =>
      exfalso
      have h3 : R.countP (fun r => !blt x r) ≤ p := by
        rw [e, List.countP_append, List.countP_cons]
        have h4 : (R.drop (p + 1)).countP (fun r => !blt x r) = 0 := by
          rw [List.countP_eq_zero]
          intro r hr
          have h5 : ble R[p] r := hd'.1 r hr
          have h6 : blt x r = true := by
            rcases ble_iff.mp h5 with h | h
            · exact blt_trans hb h
            · rw [← h]; exact hb
          simp [h6]
        rw [h4, hb]
        have h5 := List.countP_le_length (p := fun r => !blt x r) (l := R.take p)
        rw [List.length_take] at h5
        simp
        omega
      omega
  · unfold ble
    cases hb : blt R[p] x with
    | false => rfl
    | true =>
      exfalso
      have h3 : p + 1 ≤ R.countP (fun r => blt r x) := by
        rw [e, List.countP_append, List.countP_cons]
        have h4 : (R.take p).countP (fun r => blt r x) = (R.take p).length := by
          rw [List.countP_eq_length]
          intro r hr
          have h5 : ble r R[p] := hcross r hr _ List.mem_cons_self
          rcases ble_iff.mp h5 with h | h
          · exact blt_trans h hb
          · rw [h]; exact hb
        rw [h4, hb, List.length_take]
        simp
        omega
      omega
theorem onw_count {R : List (Array UInt8)} {k : Nat} (hk : k < R.length) : onw (R.map lastI) k = ((R.countP (fun r => decide (lastI r < lastI R[k])) + (R.take k).countP (fun r => lastI r == lastI R[k]) : Nat) : Int) := by
  unfold onw
  have e : (R.map lastI).getD k 0 = lastI R[k] := by simp [hk]
  rw [e, ← List.countP_eq_length_filter, ← List.countP_eq_length_filter, List.countP_map, ← List.map_take, List.countP_map]
  rfl
theorem countP_or {α : Type} {p q r : α → Bool} : ∀ {l : List α}, (∀ x ∈ l, p x = true → q x = true ∨ r x = true) → l.countP p ≤ l.countP q + l.countP r
  | [], _ => Nat.le_refl _
  | x :: l, h => by
    have ih := countP_or (l := l) fun y hy => h y (List.mem_cons_of_mem _ hy)
    have hx := h x List.mem_cons_self
    simp only [List.countP_cons]
    cases hp : p x <;> cases hq : q x <;> cases hr : r x <;> simp_all <;> omega
theorem countP_dis {α : Type} {p q r : α → Bool} : ∀ {l : List α}, (∀ x ∈ l, (q x = true → p x = true ∧ r x = false) ∧ (r x = true → p x = true ∧ q x = false)) → l.countP q + l.countP r ≤ l.countP p
  | [], _ => Nat.le_refl _
  | x :: l, h => by
    have ih := countP_dis (l := l) fun y hy => h y (List.mem_cons_of_mem _ hy)
    have hx := h x List.mem_cons_self
    simp only [List.countP_cons]
    cases hp : p x <;> cases hq : q x <;> cases hr : r x <;> simp_all <;> omega
theorem countP_at {α : Type} (p : α → Bool) {R : List α} {k : Nat} (hk : k < R.length) : R.countP p = (R.take k).countP p + ((R.drop (k + 1)).countP p + if p R[k] = true then 1 else 0) := by
  have e : R = R.take k ++ R[k] :: R.drop (k + 1) := by rw [← List.drop_eq_getElem_cons hk, List.take_append_drop]
  conv => lhs; rw [e]
  rw [List.countP_append, List.countP_cons]
theorem onw_place {R : List (Array UInt8)} {n : Nat} (hn : R.length = n) (hlen : ∀ r ∈ R, r.size = n) (hs : R.Pairwise ble) (hrot : (R.map rotR).Perm R) {k : Nat} (hk : k < R.length) :
    ∃ h : (onw (R.map lastI) k).toNat < R.length, R[(onw (R.map lastI) k).toNat] = rotR R[k] := by
  have hr := onw_range (es := R.map lastI) (k := k) (by rw [List.length_map]; exact hk)
  rw [List.length_map] at hr
  have hp : (onw (R.map lastI) k).toNat < R.length := by omega
  refine ⟨hp, sorted_at hs hp ?_ ?_⟩
  all_goals
    have e : R = R.take k ++ R[k] :: R.drop (k + 1) := by rw [← List.drop_eq_getElem_cons hk, List.take_append_drop]
    have hs' := hs
    rw [e] at hs'
    obtain ⟨_, hd, hcross⟩ := List.pairwise_append.mp hs'
    have hd' := List.pairwise_cons.mp hd
    have hkm : R[k].size = n := hlen _ (List.getElem_mem hk)
    have hT : ∀ r ∈ R.take k, r.size = n := fun r h => hlen r (List.mem_of_mem_take h)
    have hD : ∀ r ∈ R.drop (k + 1), r.size = n := fun r h => hlen r (List.mem_of_mem_drop h)
    have hpos : 0 < n := by omega
    rw [onw_count hk, Int.toNat_natCast]
  · rw [← hrot.countP_eq (fun r => blt r (rotR R[k])), List.countP_map]
    have e1 : R.countP ((fun r => blt r (rotR R[k])) ∘ rotR) = (R.take k).countP (fun r => blt (rotR r) (rotR R[k])) + ((R.drop (k + 1)).countP (fun r => blt (rotR r) (rotR R[k])) + if blt (rotR R[k]) (rotR R[k]) = true then 1 else 0) := countP_at _ hk
    have e2 : R.countP (fun r => decide (lastI r < lastI R[k])) = (R.take k).countP (fun r => decide (lastI r < lastI R[k])) + ((R.drop (k + 1)).countP (fun r => decide (lastI r < lastI R[k])) + if decide (lastI R[k] < lastI R[k]) = true then 1 else 0) := countP_at _ hk
    have h0 : blt (rotR R[k]) (rotR R[k]) = false := ble_refl _
    have h1 : decide (lastI R[k] < lastI R[k]) = false := decide_eq_false (Int.lt_irrefl _)
    rw [e1, e2, h0, h1]
    simp only [Bool.false_eq_true, if_false, Nat.add_zero]
    have a1 := countP_or (p := fun r => blt (rotR r) (rotR R[k])) (q := fun r => decide (lastI r < lastI R[k])) (r := fun r => lastI r == lastI R[k]) (l := R.take k) fun r hr h => by
      rcases (rot_lt hpos (hT r hr) hkm).mp h with h | h
      · exact .inl (decide_eq_true h)
      · exact .inr (beq_iff_eq.mpr h.1)
    have a2 : (R.drop (k + 1)).countP (fun r => blt (rotR r) (rotR R[k])) ≤ (R.drop (k + 1)).countP (fun r => decide (lastI r < lastI R[k])) := List.countP_mono_left fun r hr h => by
      rcases (rot_lt hpos (hD r hr) hkm).mp h with h | h
      · exact decide_eq_true h
      · have h3 : ble R[k] r := hd'.1 r hr
        rw [ble, h.2] at h3
        cases h3
    omega
  · rw [← hrot.countP_eq (fun r => !blt (rotR R[k]) r), List.countP_map]
    have e1 : R.countP ((fun r => !blt (rotR R[k]) r) ∘ rotR) = (R.take k).countP (fun r => !blt (rotR R[k]) (rotR r)) + ((R.drop (k + 1)).countP (fun r => !blt (rotR R[k]) (rotR r)) + if (!blt (rotR R[k]) (rotR R[k])) = true then 1 else 0) := countP_at _ hk
    have e2 : R.countP (fun r => decide (lastI r < lastI R[k])) = (R.take k).countP (fun r => decide (lastI r < lastI R[k])) + ((R.drop (k + 1)).countP (fun r => decide (lastI r < lastI R[k])) + if decide (lastI R[k] < lastI R[k]) = true then 1 else 0) := countP_at _ hk
    have h0 : blt (rotR R[k]) (rotR R[k]) = false := ble_refl _
    have h1 : decide (lastI R[k] < lastI R[k]) = false := decide_eq_false (Int.lt_irrefl _)
    rw [e1, e2, h0, h1]
    simp only [Bool.false_eq_true, if_false, Nat.add_zero, Bool.not_false, if_true]
    have a1 := countP_dis (p := fun r => !blt (rotR R[k]) (rotR r)) (q := fun r => decide (lastI r < lastI R[k])) (r := fun r => lastI r == lastI R[k]) (l := R.take k) fun r hr => by
      have hno : blt (rotR R[k]) (rotR r) = true → ¬ lastI r < lastI R[k] := fun h h2 => by
        rcases (rot_lt hpos hkm (hT r hr)).mp h with h | h <;> omega
      refine ⟨fun h => ?_, fun h => ?_⟩
      · have h' := of_decide_eq_true h
        refine ⟨?_, ?_⟩
        · cases hb : blt (rotR R[k]) (rotR r) with
          | false => rfl
          | true => exact absurd h' (hno hb)
        · exact beq_eq_false_iff_ne.mpr (by omega)
      · have h' := beq_iff_eq.mp h
        refine ⟨?_, decide_eq_false (by omega)⟩
        cases hb : blt (rotR R[k]) (rotR r) with
        | false => rfl
        | true =>
          rcases (rot_lt hpos hkm (hT r hr)).mp hb with h3 | h3
          · omega
          · have h4 : ble r R[k] := hcross r hr _ List.mem_cons_self
            rw [ble, h3.2] at h4
            cases h4
    have a2 : (R.drop (k + 1)).countP (fun r => decide (lastI r < lastI R[k])) ≤ (R.drop (k + 1)).countP (fun r => !blt (rotR R[k]) (rotR r)) := List.countP_mono_left fun r hr h => by
      have h' := of_decide_eq_true h
      cases hb : blt (rotR R[k]) (rotR r) with
      | false => rfl
      | true => rcases (rot_lt hpos hkm (hD r hr)).mp hb with h3 | h3 <;> omega
    omega
theorem tgo_rows {R : List (Array UInt8)} {n : Nat} (hn : R.length = n) (hlen : ∀ r ∈ R, r.size = n) (hs : R.Pairwise ble) (hrot : (R.map rotR).Perm R) :
    ∀ (j k : Nat) (hk : k < R.length), j ≤ n → tgo (R.map lastI) (onL (R.map lastI)) j k = (R[k].toList.reverse.take j).map (fun c => (c.toNat : Int))
  | 0, _, _, _ => rfl
  | j + 1, k, hk, hj => by
    obtain ⟨hp, hR⟩ := onw_place hn hlen hs hrot hk
    have ih := tgo_rows hn hlen hs hrot j _ hp (by omega)
    have e1 : (R.map lastI).getD k 0 = lastI R[k] := by simp [hk]
    have e2 : (onL (R.map lastI)).getD k 0 = onw (R.map lastI) k := by unfold onL; simp [hk]
    have hkm : R[k].size = n := hlen _ (List.getElem_mem hk)
    have hsp := last_split (r := R[k]) (by omega)
    show (R.map lastI).getD k 0 :: tgo (R.map lastI) (onL (R.map lastI)) j ((onL (R.map lastI)).getD k 0).toNat = _
    rw [e1, e2, ih, hR]
    have e3 : (rotR R[k]).toList.reverse.take j = (R[k].toList.dropLast.reverse).take j := by
      show ((R[k].toList.getLastD 0 :: R[k].toList.dropLast).reverse).take j = _
      rw [List.reverse_cons, List.take_append_of_le_length]
      rw [List.length_reverse, List.length_dropLast, Array.length_toList, hkm]
      omega
    have e4 : R[k].toList.reverse.take (j + 1) = R[k].toList.getLastD 0 :: (R[k].toList.dropLast.reverse).take j := by
      conv => lhs; rw [hsp]
      rw [List.reverse_append]
      rfl
    rw [e3, e4]
    rfl
theorem told_rows {R : List (Array UInt8)} {n : Nat} (hn : R.length = n) (hlen : ∀ r ∈ R, r.size = n) (hs : R.Pairwise ble) (hrot : (R.map rotR).Perm R) :
    (List.range n).map (toldRow (R.map lastI)) = R := by
  refine List.ext_getElem (by rw [List.length_map, List.length_range, hn]) fun k h1 h2 => ?_
  rw [List.getElem_map, List.getElem_range]
  have hkm : R[k].size = n := hlen _ (List.getElem_mem h2)
  unfold toldRow
  rw [List.length_map, hn, tgo_rows hn hlen hs hrot n k h2 (Nat.le_refl _), List.take_of_length_le (by rw [List.length_reverse, Array.length_toList, hkm]; exact Nat.le_refl _), List.map_reverse, List.reverse_reverse]
  unfold byteArr
  rw [List.map_map]
  have e : ((fun n : Int => n.toNat.toUInt8) ∘ fun c : UInt8 => (c.toNat : Int)) = fun c => c := by
    funext c
    show (c.toNat : Int).toNat.toUInt8 = c
    rw [Int.toNat_natCast]
    exact UInt8.ofNat_toNat
  rw [e, List.map_id', Array.toArray_toList]
open PySem PySem.W PyProof.Rows PySem.Calls
set_option Elab.async false
set_option maxRecDepth 100000
set_option maxHeartbeats 4000000
/-! figures -/
theorem dig_low (B j i a b : Nat) (hB : 0 < B) : (B ^ (j + 1 + i) * a + b) / B ^ j % B = b / B ^ j % B := by
  have e : B ^ (j + 1 + i) * a = B ^ j * (B * (B ^ i * a)) := by
    rw [Nat.pow_add, Nat.pow_succ, Nat.mul_assoc, Nat.mul_assoc]
  rw [e, Nat.mul_add_div (Nat.pow_pos hB), Nat.mul_add_mod]
theorem dig_up (B j a b : Nat) (ha : a < B) : (B * b + a) / B ^ (j + 1) = b / B ^ j := by
  rw [Nat.pow_succ, Nat.mul_comm (B ^ j) B, ← Nat.div_div_eq_div_mul, Nat.mul_add_div (Nat.lt_of_le_of_lt (Nat.zero_le _) ha), Nat.div_eq_of_lt ha, Nat.add_zero]
/-- a turn by one figure: the first one comes in behind -/
noncomputable def rotl (B d x : Nat) : Nat := x * B % B ^ (d + 1) + x / B ^ d
theorem rotl_eq (B d x : Nat) : rotl B d x = B * (x % B ^ d) + x / B ^ d := by
  unfold rotl
  rw [Nat.pow_succ, Nat.mul_mod_mul_right, Nat.mul_comm]
/-- the figures, the first one ahead -/
noncomputable def digs (B : Nat) : Nat → Nat → List Nat
  | 0, _ => []
  | d + 1, x => x / B ^ d % B :: digs B d x
theorem digs_low (B i a b : Nat) (hB : 0 < B) : ∀ d, digs B d (B ^ (d + i) * a + b) = digs B d b := by
  intro d
  have key : ∀ e f, e + f = d → digs B e (B ^ (d + i) * a + b) = digs B e b := by
    intro e
    induction e with
    | zero => intro _ _; rfl
    | succ e ih =>
      intro f h
      show _ :: _ = _ :: _
      rw [ih (f + 1) (by omega)]
      have h2 := dig_low B e (f + i) a b hB
      rw [show e + 1 + (f + i) = d + i by omega] at h2
      rw [h2]
  exact key d 0 rfl
theorem digs_up (B a b : Nat) (ha : a < B) : ∀ d, digs B (d + 1) (B * b + a) = digs B d b ++ [a]
  | 0 => by
    show [(B * b + a) / B ^ 0 % B] = [a]
    rw [Nat.pow_zero, Nat.div_one, Nat.mul_add_mod, Nat.mod_eq_of_lt ha]
  | d + 1 => by
    show (B * b + a) / B ^ (d + 1) % B :: digs B (d + 1) (B * b + a) = b / B ^ d % B :: digs B d b ++ [a]
    rw [dig_up B d a b ha, digs_up B a b ha d]
    rfl
theorem digs_rotl (B d x : Nat) (hx : x < B ^ (d + 1)) (hB : 0 < B) : digs B (d + 1) (rotl B d x) = digs B d x ++ [x / B ^ d] ∧ digs B (d + 1) x = x / B ^ d :: digs B d x := by
  have ha : x / B ^ d < B := by
    rw [Nat.div_lt_iff_lt_mul (Nat.pow_pos hB), Nat.mul_comm, ← Nat.pow_succ]; exact hx
  refine ⟨?_, ?_⟩
  · rw [rotl_eq, digs_up B _ _ ha]
    congr 1
    have h := digs_low B 0 (x / B ^ d) (x % B ^ d) hB d
    rw [Nat.add_zero, Nat.div_add_mod] at h
    exact h.symm
  · show x / B ^ d % B :: digs B d x = _
    rw [Nat.mod_eq_of_lt ha]
/-- the k-th turn of N -/
noncomputable def turnN (B D N k : Nat) : Nat := N * B ^ k % B ^ D + N / B ^ (D - k)
theorem turn_parts (B N : Nat) (hB : 0 < B) (j k : Nat) : turnN B (j + k) N k = (N % B ^ j) * B ^ k + N / B ^ j := by
  unfold turnN
  rw [Nat.pow_add, Nat.mul_mod_mul_right, Nat.add_sub_cancel]
theorem turn_step (B d N k : Nat) (hB : 0 < B) (hN : N < B ^ (d + 1)) (hk : k ≤ d) : turnN B (d + 1) N (k + 1) = rotl B d (turnN B (d + 1) N k) := by
  obtain ⟨j, rfl⟩ : ∃ j, d = j + k := ⟨d - k, by omega⟩
  have e1 := turn_parts B N hB (j + 1) k
  have e2 := turn_parts B N hB j (k + 1)
  rw [show j + 1 + k = j + k + 1 by omega] at e1
  rw [show j + (k + 1) = j + k + 1 by omega] at e2
  rw [e1, e2, rotl_eq]
  have hq : N / B ^ (j + 1) < B ^ k := by
    rw [Nat.div_lt_iff_lt_mul (Nat.pow_pos hB), ← Nat.pow_add]
    rw [show k + (j + 1) = j + k + 1 by omega]; exact hN
  -- N % B^(j+1) = r1 * B^j + r0
  have hr : N % B ^ (j + 1) = B ^ j * (N / B ^ j % B) + N % B ^ j := by
    have h1 : N / B ^ (j + 1) = N / B ^ j / B := by rw [Nat.pow_succ, Nat.div_div_eq_div_mul]
    have h2 := Nat.div_add_mod N (B ^ (j + 1))
    have h3 := Nat.div_add_mod N (B ^ j)
    have h4 := Nat.div_add_mod (N / B ^ j) B
    have h5 : B ^ (j + 1) * (N / B ^ (j + 1)) = B ^ j * (B * (N / B ^ j / B)) := by rw [h1, Nat.pow_succ, Nat.mul_assoc]
    have h6 : B ^ j * (N / B ^ j) = B ^ j * (B * (N / B ^ j / B)) + B ^ j * (N / B ^ j % B) := by rw [← Nat.mul_add, h4]
    omega
  have hr0 : N % B ^ j < B ^ j := Nat.mod_lt _ (Nat.pow_pos hB)
  have hx : N % B ^ (j + 1) * B ^ k + N / B ^ (j + 1) = B ^ (j + k) * (N / B ^ j % B) + (N % B ^ j * B ^ k + N / B ^ (j + 1)) := by
    rw [hr, Nat.add_mul]
    have : B ^ j * (N / B ^ j % B) * B ^ k = B ^ (j + k) * (N / B ^ j % B) := by
      rw [Nat.pow_add, Nat.mul_assoc, Nat.mul_comm (N / B ^ j % B), ← Nat.mul_assoc]
    rw [this, Nat.add_assoc]
  have hlow : N % B ^ j * B ^ k + N / B ^ (j + 1) < B ^ (j + k) := by
    have h1 : (N % B ^ j + 1) * B ^ k ≤ B ^ j * B ^ k := Nat.mul_le_mul_right _ hr0
    rw [Nat.add_mul, Nat.one_mul, ← Nat.pow_add] at h1
    exact Nat.lt_of_lt_of_le (Nat.add_lt_add_left hq _) h1
  rw [hx, Nat.mul_add_mod, Nat.mod_eq_of_lt hlow, Nat.mul_add_div (Nat.pow_pos hB), Nat.div_eq_of_lt hlow, Nat.add_zero, Nat.mul_add]
  have h7 : N / B ^ j = B * (N / B ^ (j + 1)) + N / B ^ j % B := by
    have h1 : N / B ^ (j + 1) = N / B ^ j / B := by rw [Nat.pow_succ, Nat.div_div_eq_div_mul]
    rw [h1, Nat.div_add_mod]
  have h8 : N % B ^ j * B ^ (k + 1) = B * (N % B ^ j * B ^ k) := by
    rw [Nat.pow_succ, ← Nat.mul_assoc, Nat.mul_comm]
  omega
open PySem PySem.W PyProof.Rows PySem.Calls
set_option Elab.async false
set_option maxRecDepth 100000
set_option maxHeartbeats 4000000
/-- the word of x: its d figures, written by S -/
noncomputable def lets (S : Nat → UInt8) (B d x : Nat) : Array UInt8 := ((digs B d x).map S).toArray
theorem digs_length (B x : Nat) : ∀ d, (digs B d x).length = d
  | 0 => rfl
  | d + 1 => by show (digs B d x).length + 1 = d + 1; rw [digs_length B x d]
theorem lets_size (S : Nat → UInt8) (B d x : Nat) : (lets S B d x).size = d := by
  unfold lets; simp [digs_length]
theorem rotR_lets (S : Nat → UInt8) (B d x : Nat) (hx : x < B ^ (d + 1)) (hB : 0 < B) :
    rotR (lets S B (d + 1) (rotl B d x)) = lets S B (d + 1) x := by
  obtain ⟨h1, h2⟩ := digs_rotl B d x hx hB
  unfold rotR lets
  rw [h1, h2]
  simp
theorem turn_zero (B D N : Nat) (hN : N < B ^ D) : turnN B D N 0 = N := by
  unfold turnN
  rw [Nat.pow_zero, Nat.mul_one, Nat.sub_zero, Nat.mod_eq_of_lt hN, Nat.div_eq_of_lt hN, Nat.add_zero]
theorem turn_full (B D N : Nat) : turnN B D N D = N := by
  unfold turnN
  rw [Nat.mul_mod_left, Nat.sub_self, Nat.pow_zero, Nat.div_one, Nat.zero_add]
theorem turn_lt (B D N k : Nat) (hB : 0 < B) (hN : N < B ^ D) (hk : k ≤ D) : turnN B D N k < B ^ D := by
  obtain ⟨j, rfl⟩ : ∃ j, D = j + k := ⟨D - k, by omega⟩
  rw [turn_parts B N hB]
  have h1 : N / B ^ j < B ^ k := by
    rw [Nat.div_lt_iff_lt_mul (Nat.pow_pos hB), Nat.mul_comm, ← Nat.pow_add]; exact hN
  have h2 : (N % B ^ j + 1) * B ^ k ≤ B ^ j * B ^ k := Nat.mul_le_mul_right _ (Nat.mod_lt _ (Nat.pow_pos hB))
  rw [Nat.add_mul, Nat.one_mul, ← Nat.pow_add] at h2
  exact Nat.lt_of_lt_of_le (Nat.add_lt_add_left h1 _) h2
noncomputable def turns (B D N : Nat) : List Nat := (List.range D).map (turnN B D N)
theorem turns_rot (S : Nat → UInt8) (B d N : Nat) (hB : 0 < B) (hN : N < B ^ (d + 1)) :
    (((turns B (d + 1) N).map (lets S B (d + 1))).map rotR).Perm ((turns B (d + 1) N).map (lets S B (d + 1))) := by
  have step : ∀ k, k ≤ d → rotR (lets S B (d + 1) (turnN B (d + 1) N (k + 1))) = lets S B (d + 1) (turnN B (d + 1) N k) := by
    intro k hk
    rw [turn_step B d N k hB hN hk]
    exact rotR_lets S B d _ (turn_lt B (d + 1) N k hB hN (by omega)) hB
  have e1 : ((turns B (d + 1) N).map (lets S B (d + 1))).map rotR = lets S B (d + 1) (turnN B (d + 1) N d) :: (List.range d).map (fun k => lets S B (d + 1) (turnN B (d + 1) N k)) := by
    unfold turns
    rw [List.range_succ_eq_map]
    simp only [List.map_cons, List.map_map]
    congr 1
    · rw [turn_zero B (d + 1) N hN]
      have := step d (Nat.le_refl d)
      rw [turn_full] at this
      exact this
    · apply List.map_congr_left
      intro k hk
      rw [List.mem_range] at hk
      exact step k (by omega)
  have e2 : (turns B (d + 1) N).map (lets S B (d + 1)) = (List.range d).map (fun k => lets S B (d + 1) (turnN B (d + 1) N k)) ++ [lets S B (d + 1) (turnN B (d + 1) N d)] := by
    unfold turns
    rw [List.range_succ]
    simp only [List.map_append, List.map_map, List.map_cons, List.map_nil]
    rfl
  rw [e1, e2]
  exact (List.perm_append_comm (l₁ := [_])).trans (List.Perm.refl _)
open PySem PySem.W PyProof.Rows PySem.Calls
set_option Elab.async false
set_option maxRecDepth 100000
set_option maxHeartbeats 4000000
noncomputable def letr (i : Nat) : UInt8 := UInt8.ofNat (65 + i)
theorem apGo_step (n : Nat) (v : Array UInt8) (h : n ≠ 0) : apGo n v = apGo (n / 16) (#[letr (n % 16)] ++ v) := by
  rw [apGo]; rw [dif_neg h]; rfl
theorem lets_snoc (S : Nat → UInt8) (B d x : Nat) (hB : 0 < B) : lets S B (d + 1) x = lets S B d (x / B) ++ #[S (x % B)] := by
  have h := digs_up B (x % B) (x / B) (Nat.mod_lt _ hB) d
  rw [Nat.div_add_mod] at h
  unfold lets
  rw [h]
  simp
theorem apGo_digs (a : Nat) (ha : 0 < a) : ∀ (d x : Nat) (v : Array UInt8), x < 16 ^ d → apGo (16 ^ d * a + x) v = apGo a (lets letr 16 d x ++ v)
  | 0, x, v, h => by
    have : x = 0 := by rw [Nat.pow_zero] at h; omega
    subst this
    rw [Nat.pow_zero, Nat.one_mul, Nat.add_zero]
    congr 1
    simp [lets, digs]
  | d + 1, x, v, h => by
    have hp : 0 < 16 ^ d * a := Nat.mul_pos (Nat.pow_pos (by decide)) ha
    have e0 : 16 ^ (d + 1) * a = 16 * (16 ^ d * a) := by rw [Nat.pow_succ, Nat.mul_comm (16 ^ d) 16, Nat.mul_assoc]
    rw [apGo_step _ _ (by omega)]
    have e1 : (16 ^ (d + 1) * a + x) / 16 = 16 ^ d * a + x / 16 := by omega
    have e2 : (16 ^ (d + 1) * a + x) % 16 = x % 16 := by omega
    rw [e1, e2, apGo_digs a ha d (x / 16) _ (by rw [Nat.pow_succ] at h; omega), lets_snoc letr 16 d x (by decide), Array.append_assoc]
theorem apGo_word (x : Nat) (h : x < 16 ^ 12) : apGo (2 ^ 48 + x) #[] = #[66] ++ lets letr 16 12 x := by
  have := apGo_digs 1 (by decide) 12 x #[] h
  rw [show (16 : Nat) ^ 12 * 1 + x = 2 ^ 48 + x by rfl] at this
  rw [this, apGo_step _ _ (by decide), Array.append_empty]
  rw [show (1 : Nat) / 16 = 0 by decide, apGo]
  rfl
open PySem PySem.W PyProof.Rows PySem.Calls
set_option Elab.async false
set_option maxRecDepth 100000
set_option maxHeartbeats 4000000
/-- the value of figures -/
noncomputable def valL (B : Nat) (v : Int) (l : List Nat) : Int := l.foldl (fun (v : Int) (i : Nat) => (B : Int) * v + (i : Int)) v
theorem rd_val (c : Array UInt8) (S : Nat → UInt8) (B : Nat) (hc : c.size = B) (hS : ∀ i, i < B → bfind c (S i) = (i : Int)) :
    ∀ (l : List Nat) (v : Int), (∀ i ∈ l, i < B) → (l.map S).foldl (rdStep c) v = valL B v l
  | [], _, _ => rfl
  | i :: l, v, h => by
    show (l.map S).foldl (rdStep c) (rdStep c v (S i)) = valL B ((B : Int) * v + (i : Int)) l
    rw [rd_val c S B hc hS l _ (fun j hj => h j (List.mem_cons_of_mem _ hj))]
    unfold rdStep
    rw [hS i (h i List.mem_cons_self), hc]
theorem digs_lt (B x : Nat) (hB : 0 < B) : ∀ d, ∀ i ∈ digs B d x, i < B
  | 0, i, h => by cases h
  | d + 1, i, h => by
    rcases List.mem_cons.mp h with rfl | h
    · exact Nat.mod_lt _ hB
    · exact digs_lt B x hB d i h
theorem val_digs (B : Nat) (hB : 0 < B) : ∀ (d x : Nat), x < B ^ d → valL B 0 (digs B d x) = (x : Int)
  | 0, x, h => by
    have : x = 0 := by rw [Nat.pow_zero] at h; omega
    subst this; rfl
  | d + 1, x, h => by
    have e := digs_up B (x % B) (x / B) (Nat.mod_lt _ hB) d
    rw [Nat.div_add_mod] at e
    have hx : x / B < B ^ d := by
      rw [Nat.div_lt_iff_lt_mul hB, ← Nat.pow_succ]; exact h
    have ih := val_digs B hB d (x / B) hx
    rw [e]
    unfold valL at ih ⊢
    rw [List.foldl_append, ih]
    show (B : Int) * ((x / B : Nat) : Int) + ((x % B : Nat) : Int) = (x : Int)
    rw [← Int.natCast_mul, ← Int.natCast_add, Nat.div_add_mod]
theorem rd_lets (c : Array UInt8) (S : Nat → UInt8) (B : Nat) (hB : 0 < B) (hc : c.size = B) (hS : ∀ i, i < B → bfind c (S i) = (i : Int)) (d x : Nat) (hx : x < B ^ d) :
    rd c (lets S B d x) = (x : Int) := by
  unfold rd lets
  rw [rd_val c S B hc hS _ 0 (digs_lt B x hB d), val_digs B hB d x hx]
open PySem PySem.W PyProof.Rows PySem.Calls
set_option Elab.async false
set_option maxRecDepth 100000
set_option maxHeartbeats 4000000
noncomputable def sign (i : Nat) : UInt8 := B64.getD i 0
noncomputable def AP : Array UInt8 := #[65, 66, 67, 68, 69, 70, 71, 72, 73, 74, 75, 76, 77, 78, 79, 80]
theorem find_letr : ∀ i, i < 16 → bfind AP (letr i) = (i : Int) := by decide +kernel
theorem find_sign : ∀ i, i < 64 → bfind B64.toArray (sign i) = (i : Int) := by decide +kernel
theorem b64v_sign : ∀ i, i < 64 → b64v ((sign i).toNat : Int) = (i : Int) ∧ ((sign i).toNat : Int) ≠ 61 := by decide +kernel
open PySem PySem.W PyProof.Rows PySem.Calls
set_option Elab.async false
set_option maxRecDepth 100000
set_option maxHeartbeats 4000000
theorem encW_8 (lc : Int) : encW lc 8 = [b64s (lc / 4 % 64)] := by
  rw [encW, dif_pos (by decide), encW, dif_neg (by decide)]; rfl
theorem encW_10 (lc : Int) : encW lc 10 = [b64s (lc / 16 % 64)] := by
  rw [encW, dif_pos (by decide), encW, dif_neg (by decide)]; rfl
theorem encW_12 (lc : Int) : encW lc 12 = [b64s (lc / 64 % 64), b64s (lc % 64)] := by
  rw [encW, dif_pos (by decide), encW, dif_pos (by decide), encW, dif_neg (by decide)]
  show [b64s (lc / 64 % 64), b64s (lc / 1 % 64)] = _
  rw [Int.ediv_one]
/-- three octets are four signs -/
theorem enc_three {c x y z p q r s : Int} {l : List Int} (hx : 0 ≤ x ∧ x < 256) (hy : 0 ≤ y ∧ y < 256) (hz : 0 ≤ z ∧ z < 256) (hp : p = x / 4) (hq : q = x % 4 * 16 + y / 16) (hr : r = y % 16 * 4 + z / 64) (hs : s = z % 64) :
    [x, y, z].foldl encStep (c, 0, l) = (y * 256 + z, 0, l ++ [b64s p, b64s q, b64s r, b64s s]) := by
  have e1 : ((c * 256 + x) % 65536) / 4 % 64 = p := by omega
  have e2 : (((c * 256 + x) % 65536 * 256 + y) % 65536) = x * 256 + y := by omega
  have e3 : (x * 256 + y) / 16 % 64 = q := by omega
  have e4 : ((x * 256 + y) * 256 + z) % 65536 = y * 256 + z := by omega
  have e5 : (y * 256 + z) / 64 % 64 = r := by omega
  have e6 : (y * 256 + z) % 64 = s := by omega
  simp only [List.foldl_cons, List.foldl_nil, encStep, Nat.zero_add, encW_8, Nat.reduceMod, Nat.reduceAdd, encW_10, encW_12, List.append_assoc, List.cons_append, List.nil_append, e1, e2, e3, e4, e5, e6]
theorem enc_six (x : Nat) : ((octs (x : Int)).foldl encStep (0, 0, [])).2.2 = (digs 64 8 x).map (fun (i : Nat) => b64s (i : Int)) := by
  have e : octs (x : Int) = [(x : Int) / 1099511627776 % 256, (x : Int) / 4294967296 % 256, (x : Int) / 16777216 % 256] ++ [(x : Int) / 65536 % 256, (x : Int) / 256 % 256, (x : Int) / 1 % 256] := rfl
  rw [e, List.foldl_append, enc_three (by omega) (by omega) (by omega) rfl rfl rfl rfl, enc_three (by omega) (by omega) (by omega) rfl rfl rfl rfl]
  simp only [digs, List.map_cons, List.map_nil, Nat.reducePow, List.nil_append, List.cons_append]
  congr 1
  · congr 1; omega
  congr 1
  · congr 1; omega
  congr 1
  · congr 1; omega
  congr 1
  · congr 1; omega
  congr 1
  · congr 1; omega
  congr 1
  · congr 1; omega
  congr 1
  · congr 1; omega
  congr 1
  · congr 1; omega
open PySem PySem.W PyProof.Rows PySem.Calls
set_option Elab.async false
set_option maxRecDepth 100000
set_option maxHeartbeats 4000000
theorem dec_eight (x : Nat) (hx : x < 2 ^ 48) : (((digs 64 8 x).map (fun (i : Nat) => ((sign i).toNat : Int))).foldl decStep (0, 0, [])).2.2 = octs (x : Int) := by
  have e : octs (x : Int) = [(x : Int) / 1099511627776 % 256, (x : Int) / 4294967296 % 256, (x : Int) / 16777216 % 256, (x : Int) / 65536 % 256, (x : Int) / 256 % 256, (x : Int) / 1 % 256] := rfl
  rw [e]
  have hv : ∀ y : Nat, b64v ((sign (y % 64)).toNat : Int) = ((y % 64 : Nat) : Int) := fun y => (b64v_sign _ (Nat.mod_lt _ (by decide))).1
  simp only [digs, List.map_cons, List.map_nil, Nat.reducePow, List.foldl_cons, List.foldl_nil, decStep, hv, Nat.reduceEqDiff, if_true, if_false, reduceIte, List.nil_append, List.cons_append]
  congr 1
  · omega
  congr 1
  · omega
  congr 1
  · omega
  congr 1
  · omega
  congr 1
  · omega
  congr 1
  · omega
open PySem PySem.W PyProof.Rows PySem.Calls
set_option Elab.async false
set_option maxRecDepth 100000
set_option maxHeartbeats 4000000
open PySem.Builtin
theorem letr_lt : ∀ i, i < 16 → ∀ j, j < 16 → ((letr i < letr j) ↔ i < j) ∧ (letr i = letr j ↔ i = j) := by decide +kernel
theorem word_lt : ∀ (d x y : Nat), Bytes.order ((digs 16 d x).map letr) ((digs 16 d y).map letr) = .lt ↔ x % 16 ^ d < y % 16 ^ d
  | 0, x, y => by simp [digs, Bytes.order, Nat.mod_one]
  | d + 1, x, y => by
    have hx := Nat.mod_lt (x / 16 ^ d) (show 0 < 16 by decide)
    have hy := Nat.mod_lt (y / 16 ^ d) (show 0 < 16 by decide)
    obtain ⟨h1, h2⟩ := letr_lt _ hx _ hy
    show Bytes.order (letr _ :: _) (letr _ :: _) = .lt ↔ _
    rw [order_cons, h1, h2, word_lt d x y]
    have ex : x % 16 ^ (d + 1) = x % 16 ^ d + 16 ^ d * (x / 16 ^ d % 16) := by rw [Nat.pow_succ, Nat.mod_mul]
    have ey : y % 16 ^ (d + 1) = y % 16 ^ d + 16 ^ d * (y / 16 ^ d % 16) := by rw [Nat.pow_succ, Nat.mod_mul]
    rw [ex, ey]
    have hp : 0 < 16 ^ d := Nat.pow_pos (by decide)
    have lx := Nat.mod_lt x hp
    have ly := Nat.mod_lt y hp
    generalize x / 16 ^ d % 16 = a at *
    generalize y / 16 ^ d % 16 = b at *
    generalize x % 16 ^ d = u at *
    generalize y % 16 ^ d = v at *
    generalize 16 ^ d = P at *
    constructor
    · rintro (h | ⟨rfl, h⟩)
      · have := Nat.mul_le_mul_left P (show a + 1 ≤ b from h)
        rw [Nat.mul_add, Nat.mul_one] at this
        omega
      · omega
    · intro h
      rcases Nat.lt_trichotomy a b with g | g | g
      · exact .inl g
      · subst g; exact .inr ⟨rfl, by omega⟩
      · have := Nat.mul_le_mul_left P (show b + 1 ≤ a from g)
        rw [Nat.mul_add, Nat.mul_one] at this
        omega
theorem word_ble (d x y : Nat) (hx : x < 16 ^ d) (hy : y < 16 ^ d) : ble (lets letr 16 d x) (lets letr 16 d y) ↔ x ≤ y := by
  unfold ble
  rw [blt_false]
  unfold lets
  rw [show (List.map letr (digs 16 d y)).toArray.toList = List.map letr (digs 16 d y) from rfl, show (List.map letr (digs 16 d x)).toArray.toList = List.map letr (digs 16 d x) from rfl]
  rw [Ne, word_lt, Nat.mod_eq_of_lt hx, Nat.mod_eq_of_lt hy]
  omega
open PySem PySem.W PyProof.Rows PySem.Calls
set_option Elab.async false
set_option maxRecDepth 100000
set_option maxHeartbeats 4000000
theorem enc_text (x : Nat) : byteArr ((digs 64 8 x).map (fun (i : Nat) => b64s (i : Int))) = lets sign 64 8 x := by
  unfold byteArr lets
  rw [List.map_map]
  congr 1
  apply List.map_congr_left
  intro i _
  show (b64s (i : Int)).toNat.toUInt8 = sign i
  unfold b64s sign
  simp
theorem octs_range (x : Int) : ∀ o ∈ octs x, 0 ≤ o ∧ o < 256 := by
  intro o h
  unfold octs at h
  obtain ⟨i, _, rfl⟩ := List.mem_map.mp h
  omega
/-- what «some» holds: one to eight ints below 64 -/
noncomputable def SomeR (h₀ : Heap) (L : Addr) (m : Str → Option Value) (news : List (Addr × Obj)) (s : Shared) (v : Value) (s' : Shared) : Prop :=
  ∃ D l n h tk, v = .ref D ∧ s' = { s with heap := h, toks := tk } ∧ Fr h₀ L h m ∧ News h₀ L h ((D, ilist l n) :: news) ∧ LCg.Off1 D news ∧ 1 ≤ l.length ∧ l.length ≤ 8 ∧ ∀ x ∈ l, 0 ≤ x.1 ∧ x.1 < 64
theorem some_cut {prog : Program} {w : World} {A : Around} {c : Sem Value} {E : Value → Shared → Prop} {s : Shared} {h₀ : Heap} {L : Addr} {m : Str → Option Value} {news : List (Addr × Obj)} {Q : Value → Shared → Prop}
    (_F : Fr h₀ L s.heap m) (_N : News h₀ L s.heap news) (h1 : wpAny (model prog w) A c (SomeR h₀ L m news s) E s)
    (h2 : ∀ D l n h tk, 1 ≤ l.length → l.length ≤ 8 → (∀ x ∈ l, 0 ≤ x.1 ∧ x.1 < 64) → Fr h₀ L h m → News h₀ L h ((D, ilist l n) :: news) → LCg.Off1 D news → Q (.ref D) { s with heap := h, toks := tk }) :
    wpAny (model prog w) A c Q E s := by
  refine wpAny_mono h1 ?_ fun _ _ e => e
  rintro v s' ⟨D, l, n, h, tk, rfl, rfl, F, N, hlt, l1, l2, hx⟩
  exact h2 D l n h tk l1 l2 hx F N hlt
theorem off1_of_lt {D : Addr} : ∀ {l : List (Addr × Obj)}, AllLt D l → LCg.Off1 D l
  | [], _ => trivial
  | _ :: _, x => ⟨Nat.ne_of_lt x.1, off1_of_lt x.2⟩
theorem news_sub {h₀ h : Heap} {L : Addr} {news news' : List (Addr × Obj)} (N : News h₀ L h news) (hs : ∀ p ∈ news', p ∈ news) : News h₀ L h news' := fun p hp => N p (hs p hp)
noncomputable def NumLt (N i : Nat) : Prop := N < 64 ^ i
theorem getD_bound {l : List IT} {j : Nat} (h : ∀ x ∈ l, 0 ≤ x.1 ∧ x.1 < 64) (hj : j < l.length) : 0 ≤ (l.getD j (0, 0)).1 ∧ (l.getD j (0, 0)).1 < 64 := by
  have e : l.getD j (0, 0) = l[j] := by simp [hj]
  rw [e]
  exact h _ (List.getElem_mem hj)
theorem numLt_step {N i : Nat} {x : Int} (h : NumLt N i) (h0 : 0 ≤ x) (h1 : x < 64) : NumLt (64 * N + x.toNat) (i + 1) := by
  unfold NumLt at *
  rw [Nat.pow_succ]
  omega
theorem news_drop1 {h₀ h : Heap} {L : Addr} {a b : Addr × Obj} {r : List (Addr × Obj)} (N : News h₀ L h (a :: b :: r)) : News h₀ L h (a :: r) := news_sub N fun p hp => by
  rcases List.mem_cons.mp hp with rfl | hp
  · exact .head _
  · exact .tail _ (.tail _ hp)
theorem news_drop2 {h₀ h : Heap} {L : Addr} {a b c : Addr × Obj} {r : List (Addr × Obj)} (N : News h₀ L h (a :: b :: c :: r)) : News h₀ L h (a :: b :: r) := news_sub N fun p hp => by
  rcases List.mem_cons.mp hp with rfl | hp
  · exact .head _
  · rcases List.mem_cons.mp hp with rfl | hp
    · exact .tail _ (.head _)
    · exact .tail _ (.tail _ (.tail _ hp))
theorem news_drop0 {h₀ h : Heap} {L : Addr} {a : Addr × Obj} {r : List (Addr × Obj)} (N : News h₀ L h (a :: r)) : News h₀ L h r := news_sub N fun p hp => .tail _ hp
theorem tail66 (a : Array UInt8) : (((#[66] ++ a).toList).drop 1).toArray = a := by
  simp
theorem popping_start {lh : List BT} (h : lh.length = 12) : Popping (hfyGo lh 6) [] (hfyGo lh 6) ∧ (hfyGo lh 6).length + 0 = 12 := by
  refine ⟨⟨hfy_heap h 6 (Nat.le_refl _), List.Perm.refl _, List.Pairwise.nil, fun a ha => by cases ha⟩, ?_⟩
  rw [(hfy_perm h 6 (Nat.le_refl _)).length_eq, h]
theorem split_last (l : List BT) (h : 0 < l.length) : ∃ l1 q, l = l1 ++ [q] := by
  rcases List.eq_nil_or_concat l with rfl | ⟨l1, q, e⟩
  · exact absurd h (Nat.lt_irrefl _)
  · exact ⟨l1, q, by rw [e, List.concat_eq_append]⟩
theorem lst_bvs (ls : List BT) : LCg.lst (bvs ls) = blist ls ls.length := by
  show ({ cls := .type "list", data := .seq (bvs ls).toArray (bvs ls).length } : Obj) = _
  rw [bvs_length]
theorem iv_at {l : List IT} {j : Nat} {v : Value} (hj : j < l.length) (h : (ivs l).toArray[j]? = some v) : v = .int (l.getD j (0, 0)).1 (l.getD j (0, 0)).2 := by
  have h9 := ivs_get hj
  rw [show (ivs l).toArray[j]? = (ivs l)[j]? by simp, h9] at h
  exact (Option.some.inj h).symm
theorem bv_at {l : List BT} {j : Nat} {v : Value} (hj : j < l.length) (h : (bvs l).toArray[j]? = some v) : v = .bytes (l.getD j bnil).1 (l.getD j bnil).2 := by
  have h9 := bvs_get hj
  rw [show (bvs l).toArray[j]? = (bvs l)[j]? by simp, h9] at h
  exact (Option.some.inj h).symm
theorem range_getD {α : Type} {n j : Nat} {d : α} (f : Nat → α) (h : j < n) : ((List.range n).map f).getD j d = f j := by
  simp [h]
theorem bmap_getD (l : List BT) {j : Nat} (h : j < l.length) : (l.map (·.1)).getD j #[] = (l.getD j bnil).1 := by
  simp [h]
theorem head66 (a : Array UInt8) : (#[66] ++ a).getD 0 0 = 66 := by
  simp [Array.getD]
theorem four_eq (N j : Nat) (hj : j < 12) : (N : Int) * 16 ^ (0 + (j : Int)).toNat % 281474976710656 + (N : Int) / 16 ^ (12 - (0 + (j : Int))).toNat = ((turnN 16 12 N j : Nat) : Int) := by
  have e1 : (0 + (j : Int)).toNat = j := by omega
  have e2 : (12 - (0 + (j : Int))).toNat = 12 - j := by omega
  rw [e1, e2]
  unfold turnN
  rw [Int.natCast_add, Int.natCast_emod, Int.natCast_ediv, Int.natCast_mul, Int.natCast_pow, Int.natCast_pow, Int.natCast_pow]
  rfl
theorem six_eq (N j : Nat) (hj : j < 8) : (N : Int) * 64 ^ (0 + (j : Int)).toNat % 281474976710656 + (N : Int) / 64 ^ (8 - (0 + (j : Int))).toNat = ((turnN 64 8 N j : Nat) : Int) := by
  have e1 : (0 + (j : Int)).toNat = j := by omega
  have e2 : (8 - (0 + (j : Int))).toNat = 8 - j := by omega
  rw [e1, e2]
  unfold turnN
  rw [Int.natCast_add, Int.natCast_emod, Int.natCast_ediv, Int.natCast_mul, Int.natCast_pow, Int.natCast_pow, Int.natCast_pow]
  rfl
theorem fr_script {h₀ h : Heap} {L a : Addr} {m : Str → Option Value} {its : Array Value} (F : Fr h₀ L h m) (_hl : h₀.IsList a its) (e : m = fun y => if y = Str.ofString "script" then some (.ref a) else none) :
    Fr h₀ L h (fun y => if y = Str.ofString "script" then some (.ref a) else none) := e ▸ F
theorem cell_as {o : Obj} {v v' : Option Value} (h : o.data = .cell v) (e : v = v') : o.data = .cell v' := e ▸ h
section
variable {prog : Program} {w : World} {A : Around} {E : Value → Shared → Prop} {s : Shared} {h₀ : Heap} {L D : Addr} {m : Str → Option Value} {news news' : List (Addr × Obj)} {l : List IT} {n : Nat}
theorem i_truthy {Q : Bool → Shared → Prop} (N : News h₀ L s.heap news) (hm : (D, ilist l n) ∈ news) (hl : l.length ≤ 1000) (h : ∀ k', Q (decide (0 < l.length)) { s with toks := k' }) :
    wpAny (model prog w) A (truthy (.ref D)) Q E s := by
  have hs : (ivs l).toArray.size = l.length := by rw [List.size_toArray]; exact ivs_length l
  refine wpAny_truthy_list (i_isList N hm) (by rw [hs]; omega) ?_
  have e : (!(ivs l).toArray.isEmpty) = decide (0 < l.length) := by
    cases l with
    | nil => rfl
    | cons _ _ => simp [ivs]
  rw [e]; exact h _
theorem mulL_K {a b : Int} {t u : Tok} {Q : Value → Shared → Prop} (h0 : 0 ≤ a) (h1 : a < 2 ^ 60) (h : ∀ k k', Q (.int (a * b) k) { s with toks := k' }) :
    wpAny (model prog w) A (binaryOp .Mult (.int a t) (.int b u)) Q E s :=
  mul_int (h _ _) (IntMulOk.of_left (intBits_le_64 (by omega) (by omega)))
end
theorem popL_length (l : List BT) (q : BT) : (popL l q).length = l.length := by
  unfold popL
  split
  · rw [siftup_length, List.length_set]
  · rfl
/-- the turns' words, in order -/
structure Turned (S : Nat → UInt8) (B D N : Nat) (lo : List BT) : Prop where
  len : lo.length = D
  perm : (lo.map (·.1)).Perm ((turns B D N).map (lets S B D))
  sorted : (lo.map (·.1)).Pairwise ble
theorem turned_of {S : Nat → UInt8} {B D N : Nat} {lh lq lo : List BT} (hlh : lh.map (·.1) = (List.range D).map (fun k => lets S B D (turnN B D N k))) (hQ : lq.Perm lh) (hP : Popping lq lo []) : Turned S B D N lo := by
  have h1 : lo.Perm lh := by
    have h9 := hP.perm
    rw [List.append_nil] at h9
    exact h9.trans hQ
  have h2 : (lo.map (·.1)).Perm ((turns B D N).map (lets S B D)) := by
    have h9 := h1.map (·.1)
    rw [hlh] at h9
    unfold turns
    rw [List.map_map]
    exact h9
  refine ⟨?_, h2, List.pairwise_map.mpr hP.sorted⟩
  have h9 := h2.length_eq
  simpa [turns] using h9
theorem Turned.mem {S : Nat → UInt8} {B D N : Nat} {lo : List BT} (T : Turned S B D N lo) {k : Nat} (hk : k < D) : ∃ i, i < D ∧ (lo.getD k bnil).1 = lets S B D (turnN B D N i) := by
  have h1 : k < lo.length := by rw [T.len]; exact hk
  have h2 : (lo.getD k bnil).1 ∈ lo.map (·.1) := by
    have e : lo.getD k bnil = lo[k] := by simp [h1]
    rw [e]
    exact List.mem_map.mpr ⟨_, List.getElem_mem h1, rfl⟩
  have h3 := T.perm.mem_iff.mp h2
  obtain ⟨x, hx, e⟩ := List.mem_map.mp h3
  obtain ⟨i, hi, rfl⟩ := List.mem_map.mp hx
  exact ⟨i, List.mem_range.mp hi, e.symm⟩
theorem Turned.size {S : Nat → UInt8} {B D N : Nat} {lo : List BT} (T : Turned S B D N lo) {k : Nat} (hk : k < D) : (lo.getD k bnil).1.size = D := by
  obtain ⟨i, _, e⟩ := T.mem hk
  rw [e, lets_size]
theorem Turned.told {S : Nat → UInt8} {B d N : Nat} {lo : List BT} (T : Turned S B (d + 1) N lo) (hB : 0 < B) (hN : N < B ^ (d + 1)) :
    (List.range (d + 1)).map (toldRow ((lo.map (·.1)).map lastI)) = lo.map (·.1) := by
  refine told_rows (by rw [List.length_map, T.len]) (fun r hr => ?_) T.sorted ?_
  · have h3 := T.perm.mem_iff.mp hr
    obtain ⟨x, _, rfl⟩ := List.mem_map.mp h3
    exact lets_size ..
  · exact (T.perm.map rotR).trans ((turns_rot S B d N hB hN).trans T.perm.symm)
theorem lastI_at {b : Array UInt8} {n : Nat} (h : b.size = n + 1) : ((b.getD n 0).toNat : Int) = lastI b := by
  unfold lastI
  have h1 : n < b.size := by omega
  have e : b.toList.getLastD 0 = b.getD n 0 := by
    rw [List.getLastD_eq_getLast?, List.getLast?_eq_getElem?, Array.length_toList, h, Nat.add_sub_cancel]
    simp [Array.getD, h1]
  rw [e]
theorem lastI_range (r : Array UInt8) : 0 ≤ lastI r ∧ lastI r < 256 := by
  unfold lastI
  have := (r.toList.getLastD 0).toNat_lt
  omega
theorem range_map_getD {α : Type} (f : Array UInt8 → α) (l : List BT) : (List.range l.length).map (fun k => f (l.getD k bnil).1) = (l.map (·.1)).map f := by
  apply List.ext_getElem (by simp)
  intro i h1 h2
  simp at h1 h2 ⊢
  simp [h2]
section
variable {prog : Program} {w : World} {A : Around} {E : Value → Shared → Prop} {s : Shared} {h₀ : Heap} {L D D' : Addr} {news : List (Addr × Obj)} {n n' : Nat} {Q : Value → Shared → Prop}
theorem b_eqs {l l' : List BT} (he : l.map (·.1) = l'.map (·.1)) : ∀ j (h1 : j < (bvs l).toArray.size) (h2 : j < (bvs l').toArray.size), SeqAt.EqAt A.in1 s (bvs l).toArray[j] (bvs l').toArray[j] true := by
  intro j h1 h2 prog w E Q hq
  have h3 : j < l.length := by simpa [bvs] using h1
  have h4 : j < l'.length := by simpa [bvs] using h2
  have e1 : (bvs l).toArray[j] = .bytes l[j].1 l[j].2 := by simp [bvs, bv]
  have e2 : (bvs l').toArray[j] = .bytes l'[j].1 l'[j].2 := by simp [bvs, bv]
  rw [e1, e2]
  refine eqBool_bytes ?_
  have e3 : l[j].1 = l'[j].1 := by
    have h5 : (l.map (·.1))[j]? = (l'.map (·.1))[j]? := by rw [he]
    simpa [h3, h4] using h5
  rw [e3, decide_eq_true rfl]
  exact hq
theorem b_ne_same {l l' : List BT} (N : News h₀ L s.heap news) (ha : (D, blist l n) ∈ news) (hb : (D', blist l' n') ∈ news) (he : l.map (·.1) = l'.map (·.1)) (hu : A.units < cLine) (h : Q (.bool false) s) :
    wpAny (model prog w) A (compareOp .NotEq (.ref D) (.ref D')) Q E s := by
  have hl : l.length = l'.length := by
    have h9 := congrArg List.length he
    simpa using h9
  refine SeqAt.RcNeAt.lists (e := fun _ => true) (b_isList N ha) (b_isList N hb) (by simp [bvs, hl]) hu (b_eqs he) prog w E Q ?_
  have e : (!(List.range (bvs l).toArray.size).all fun _ => true) = false := by simp
  rw [e]
  exact h
theorem b_eq_same {l l' : List BT} (N : News h₀ L s.heap news) (ha : (D, blist l n) ∈ news) (hb : (D', blist l' n') ∈ news) (he : l.map (·.1) = l'.map (·.1)) (hu : A.units < cLine) (h : Q (.bool true) s) :
    wpAny (model prog w) A (compareOp .Eq (.ref D) (.ref D')) Q E s := by
  have hl : l.length = l'.length := by
    have h9 := congrArg List.length he
    simpa using h9
  refine SeqAt.RcAt.lists (e := fun _ => true) (b_isList N ha) (b_isList N hb) (by simp [bvs, hl]) hu (b_eqs he) prog w E Q ?_
  have e : ((List.range (bvs l).toArray.size).all fun _ => true) = true := by simp
  rw [e]
  exact h
theorem i_ne_same {l l' : List IT} (N : News h₀ L s.heap news) (ha : (D, ilist l n) ∈ news) (hb : (D', ilist l' n') ∈ news) (he : l.map (·.1) = l'.map (·.1)) (hu : A.units + 64 < cLine) (h : Q (.bool false) s) :
    wpAny (model prog w) A (compareOp .NotEq (.ref D) (.ref D')) Q E s := by
  refine ke_ne_ints (i_isList N ha) (i_isList N hb) (ivs_ints l) (ivs_ints l') hu ?_
  rw [decide_eq_true he]
  exact h
theorem i_sorted {l : List IT} {m : Str → Option Value} (F : Fr h₀ L s.heap m) (N : News h₀ L s.heap news) (hm : (D, ilist l n) ∈ news) (hl : l.length < 64)
    (h : ∀ D' l' n' h', Fr h₀ L h' m → News h₀ L h' ((D', ilist l' n') :: news) → (l'.map (·.1)).Perm (l.map (·.1)) → (l'.map (·.1)).Pairwise (· ≤ ·) → Q (.ref D') { s with heap := h' }) :
    wpAny (model prog w) A (call (.builtin "sorted") [.ref D]) Q E s := by
  refine kso_sorted F N (i_isList N hm) (ivs_ints l) (by rw [List.length_map]; exact hl) ?_
  intro D1 vs' ns' c h' F' N' _ hi _ hp ho _
  obtain ⟨l', rfl, rfl⟩ := ints_ivs hi
  exact h D1 l' c h' F' N' hp ho
end
theorem Turned.reads {S : Nat → UInt8} {B D N : Nat} {lo : List BT} {c : Array UInt8} (T : Turned S B D N lo) (hB : 0 < B) (hN : N < B ^ D) (hrd : ∀ x, x < B ^ D → rd c (lets S B D x) = (x : Int)) :
    ((lo.map (·.1)).map (rd c)).Perm ((List.range D).map (fun k => ((turnN B D N k : Nat) : Int))) := by
  have h1 := T.perm.map (rd c)
  have h2 : ((turns B D N).map (lets S B D)).map (rd c) = (List.range D).map (fun k => ((turnN B D N k : Nat) : Int)) := by
    unfold turns
    rw [List.map_map, List.map_map]
    apply List.map_congr_left
    intro k hk
    simp only [Function.comp_apply]
    rw [hrd _ (turn_lt B D N k hB hN (Nat.le_of_lt (List.mem_range.mp hk)))]
  rw [h2] at h1
  exact h1
theorem Turned.readsUp {S : Nat → UInt8} {B D N : Nat} {lo : List BT} {c : Array UInt8} (T : Turned S B D N lo) (hB : 0 < B) (hN : N < B ^ D) (hrd : ∀ x, x < B ^ D → rd c (lets S B D x) = (x : Int))
    (hord : ∀ x y, x < B ^ D → y < B ^ D → ble (lets S B D x) (lets S B D y) → x ≤ y) : ((lo.map (·.1)).map (rd c)).Pairwise (· ≤ ·) := by
  have hx : ∀ x ∈ turns B D N, x < B ^ D := by
    intro x h
    obtain ⟨k, hk, rfl⟩ := List.mem_map.mp h
    exact turn_lt B D N k hB hN (Nat.le_of_lt (List.mem_range.mp hk))
  refine List.pairwise_map.mpr (List.Pairwise.imp_of_mem (fun {a b} ha hb hab => ?_) T.sorted)
  obtain ⟨x, hx1, rfl⟩ := List.mem_map.mp (T.perm.mem_iff.mp ha)
  obtain ⟨y, hy1, rfl⟩ := List.mem_map.mp (T.perm.mem_iff.mp hb)
  rw [hrd x (hx x hx1), hrd y (hx y hy1)]
  have := hord x y (hx x hx1) (hx y hy1) hab
  exact_mod_cast this
theorem Turned.reads4 {N : Nat} {lo : List BT} (T : Turned letr 16 12 N lo) (hN : N < 16 ^ 12) :
    ((lo.map (·.1)).map (rd AP)).Perm ((List.range 12).map (fun k => ((turnN 16 12 N k : Nat) : Int))) ∧ ((lo.map (·.1)).map (rd AP)).Pairwise (· ≤ ·) :=
  ⟨T.reads (by decide) hN (fun x h => rd_lets AP letr 16 (by decide) rfl find_letr 12 x h), T.readsUp (by decide) hN (fun x h => rd_lets AP letr 16 (by decide) rfl find_letr 12 x h) (fun x y hx hy h => (word_ble 12 x y hx hy).mp h)⟩
theorem Turned.reads6 {N : Nat} {lo : List BT} (T : Turned sign 64 8 N lo) (hN : N < 64 ^ 8) :
    ((lo.map (·.1)).map (rd B64.toArray)).Perm ((List.range 8).map (fun k => ((turnN 64 8 N k : Nat) : Int))) :=
  T.reads (by decide) hN (fun x h => rd_lets B64.toArray sign 64 (by decide) rfl find_sign 8 x h)
theorem bInts_byteArr (l : List Int) (h : ∀ x ∈ l, 0 ≤ x ∧ x < 256) : KBw.bInts (byteArr l) = l := by
  unfold KBw.bInts byteArr
  rw [List.map_map]
  conv => rhs; rw [← List.map_id l]
  apply List.map_congr_left
  intro x hx
  obtain ⟨h0, h1⟩ := h x hx
  show ((x.toNat.toUInt8).toNat : Int) = x
  have e : (x.toNat.toUInt8).toNat = x.toNat := by
    show x.toNat % 256 = x.toNat
    omega
  rw [e]; omega
theorem octs_size (x : Int) : (byteArr (octs x)).size = 6 := by
  simp [byteArr, octs]
/-- the eight signs of a number -/
noncomputable def sgn (x : Int) : Array UInt8 := lets sign 64 8 x.toNat
theorem enc_sgn (x : Int) (h : 0 ≤ x) : byteArr ((KBw.bInts (byteArr (octs x))).foldl encStep (0, 0, [])).2.2 = sgn x := by
  rw [bInts_byteArr _ (octs_range x)]
  have e : x = ((x.toNat : Nat) : Int) := by omega
  rw [e, enc_six, enc_text]
  unfold sgn
  rw [Int.toNat_natCast]
theorem turned_six {N : Nat} {lx : List IT} {lp lo : List BT} (hlx : lx.map (·.1) = (List.range 8).map (fun k => ((turnN 64 8 N k : Nat) : Int))) (hp : (lp.map (·.1)).Perm ((lx.map (·.1)).map sgn)) (hP : Popping lp lo []) : Turned sign 64 8 N lo := by
  have h1 : lo.Perm lp := by
    have h9 := hP.perm
    rw [List.append_nil] at h9
    exact h9
  have h2 : (lo.map (·.1)).Perm ((turns 64 8 N).map (lets sign 64 8)) := by
    refine (h1.map (·.1)).trans (hp.trans ?_)
    rw [hlx]
    unfold turns
    rw [List.map_map, List.map_map]
    rfl
  refine ⟨?_, h2, List.pairwise_map.mpr hP.sorted⟩
  have h9 := h2.length_eq
  simpa [turns] using h9
theorem pushed_perm {l lp : List BT} {b : Array UInt8} {t : Tok} {r : List (Array UInt8)} (h : l.Perm ((b, t) :: lp)) (hp : (lp.map (·.1)).Perm r) : (l.map (·.1)).Perm (r ++ [b]) := by
  have h1 := h.map (·.1)
  rw [List.map_cons] at h1
  have h2 : (b :: lp.map (·.1)).Perm (b :: r) := List.Perm.cons b hp
  exact h1.trans (h2.trans (List.perm_append_comm (l₁ := [b]) (l₂ := r)))
theorem bInts_lets (x : Nat) : KBw.bInts (lets sign 64 8 x) = (digs 64 8 x).map (fun (i : Nat) => ((sign i).toNat : Int)) := by
  unfold KBw.bInts lets
  rw [List.map_map]
  rfl
theorem dec_ok {b : Array UInt8} {x : Nat} (hb : b = lets sign 64 8 x) (hx : x < 2 ^ 48) : (∀ c ∈ KBw.bInts b, c ≠ 61 ∧ 0 ≤ b64v c ∧ b64v c < 64) ∧ byteArr ((KBw.bInts b).foldl decStep (0, 0, [])).2.2 = byteArr (octs (rd B64.toArray b)) := by
  subst hb
  rw [bInts_lets]
  constructor
  · intro c hc
    obtain ⟨i, hi, rfl⟩ := List.mem_map.mp hc
    have hi2 : i < 64 := digs_lt 64 x (by decide) 8 i hi
    obtain ⟨h1, h2⟩ := b64v_sign i hi2
    rw [h1]
    exact ⟨h2, by omega, by omega⟩
  · rw [dec_eight x hx, rd_lets B64.toArray sign 64 (by decide) rfl find_sign 8 x hx]
local macro_rules | `(tactic| ktr_room) => `(tactic| exact Nat.le_of_ble_eq_true rfl)
local macro_rules | `(tactic| ktr_units) => `(tactic| exact Nat.le_of_ble_eq_true rfl)
local macro_rules | `(tactic| k_ne) => `(tactic| (refine neN ?_; (try dsimp only); first | assumption | exact Ne.symm (by assumption) | omega))
local macro_rules | `(tactic| walk_at "binaryOp Mult int int") => `(tactic| (k_here; with_reducible refine mulL_K (by omega) (by omega) ?_; intro _ _; (try dsimp only)))
local macro_rules | `(tactic| ktr_unf) => `(tactic| first | (refine ap_call _ _ _ _ ?_ ?_ <;> omega) | ((with_reducible show Ctr _ _ 42 _ _ _); exact hfy_callI (by first | assumption | omega) (by k_upd)) | ((with_reducible show Ctr _ _ 35 _ _ _); refine pop_callI ?_ (by k_upd); first | assumption | omega) | ((with_reducible show Ctr _ _ 28 _ _ _); refine push_callI ?_ (by k_upd); first | assumption | omega) | (refine read_call _ _ _ _ _ _ ?_ ?_ ?_ <;> first | decide | omega) | (refine oct_call _ _ _ _ ?_ ?_ <;> omega) | (refine enc_call _ _ _ _ ?_ <;> first | exact octs_size _ | omega) | exact signs_call _ _ | (refine dec_call _ _ _ _ ?_ ?_ <;> first | with_reducible assumption | omega) | (refine told_call _ _ _ _ _ ?_ ?_ <;> first | assumption | omega))
local macro_rules | `(tactic| walk_at "call ref") => `(tactic| (k_here; (with_reducible show wpAny _ _ (call (Value.ref 168) _) _ _ _); k_dflt (refine Ctr.use' (ret := ?_)); intro r9 h' t9 n9 hP9 F' N'; obtain ⟨D9, rows9, nn9, hr9, hn9, hm9, ho9⟩ := hP9; subst n9; subst r9; (rename (∀ _ : List BT, _ = _ → _ = _) => hw9); (have he9 := hw9 _ hm9); clear hw9; (try dsimp only); (try k_sweep)))
local macro_rules | `(tactic| walk_at "compareOp NotEq ref ref") => `(tactic| (k_here; k_dflt (first | refine b_ne_same (by k_asm) (by k_mem) (by k_mem) (by with_reducible assumption) (by exact Nat.le_of_ble_eq_true rfl) ?_ | refine i_ne_same (by k_asm) (by k_mem) (by k_mem) (by with_reducible first | assumption | exact ksm_same (List.Perm.trans (by assumption) (List.Perm.symm (by assumption))) (by assumption) (by assumption) | exact ksm_same (List.Perm.trans (by assumption) (List.Perm.trans (by assumption) (List.Perm.symm (by assumption)))) (by assumption) (by assumption)) (by exact Nat.le_of_ble_eq_true rfl) ?_)))
local macro_rules | `(tactic| walk_at "compareOp Eq ref ref") => `(tactic| (k_here; k_dflt (refine b_eq_same (by k_asm) (by k_mem) (by k_mem) (by with_reducible assumption) (by exact Nat.le_of_ble_eq_true rfl) ?_)))
local macro_rules | `(tactic| walk_at "call builtin:sorted") => `(tactic| (k_here; (with_reducible show wpAny _ _ (call _ [Value.ref _]) _ _ _); k_dflt (refine i_sorted (by k_asm) (by k_asm) (by k_mem) (by omega) ?_); intro D9 l9 n9 h' F' N' p9 o9; (try k_sweep)))
local macro_rules | `(tactic| walk_at "subscriptTail") => `(tactic| (k_here; (with_reducible show wpAny _ _ (subscriptTail _ (Expr.Slice none (some _) none _) (Value.bytes _ _) (Value.ref _)) _ _ _); (with_reducible rename Fr _ _ _ _ => F'); (with_reducible rename News _ _ _ _ => N'); (refine cutHead_K (s := ⟨_, _, _, _, _⟩) F' N' (by omega) (by omega) ?_); intro _ _ _ _ _; (try k_sweep)))
local macro_rules | `(tactic| walk_at "subscriptTail") => `(tactic| (k_here; (with_reducible show wpAny _ _ (subscriptTail _ (Expr.Slice (some _) none none _) (Value.bytes _ _) (Value.ref _)) _ _ _); (with_reducible rename Fr _ _ _ _ => F'); (with_reducible rename News _ _ _ _ => N'); (refine cutTail_K (s := ⟨_, _, _, _, _⟩) F' N' (by omega) (by omega) ?_); intro _ _ _ _ _; (try k_sweep)))
local macro_rules | `(tactic| walk_at "callWith ref nil nil") => `(tactic| (k_here; (with_reducible show wpAny _ _ (callWith _ _ _ (backTo _ (starEach [] _)) _) _ _ _); k_dflt (refine callWith_K0 (by first | with_reducible assumption | k_in) (by k_is) ?_)))
theorem signs_call (w : World) (news : List (Addr × Obj)) :
    Ctr 1 w 151 [] news (fun r nx => (∃ t, r = .bytes B64.toArray t) ∧ nx = news) := by
  unfold Ctr
  k_fill
  intro dp un gd cn cs a ccd cl outer A₀ base h₀ L m p loose mean mg mb s Q E B F X N T hk hdp hun hret
  refine wpAny_call ?_
  k_dflt cell_enter
  tb_start
  rename Fr _ _ _ _ => eF
  rename News _ _ _ _ => eN
  exact hret _ _ _ _ ⟨⟨_, rfl⟩, rfl⟩ eF eN
set_option maxHeartbeats 0
set_option rowWalk.seconds 0
theorem main : PySem.Challenge.rw_oy0068_01.Holds := hd (by
  w_strict (
    k_go0
    (all_goals try k_fold)
    rename IntsAre _ _ => hI0
    rename Heap.IsList _ _ _ => hL0
    rename Fr _ _ _ _ => F0
    rename News _ _ _ _ => lN
    rename (_ = Data.cell (bindC _ _ _ (Str.ofString "pile"))) => dp0
    rename (_ = Data.cell (bindC _ _ _ (Str.ofString "heap"))) => dh0
    rename (_ = Data.cell (bindC _ _ _ (Str.ofString "whole"))) => dw0
    rename (_ = Data.cell (bindC _ _ _ (Str.ofString "number"))) => dn0
    have lF := fr_script F0 hL0 (by with_unfolding_all rfl)
    have dp := cell_as (v' := none) dp0 (by with_unfolding_all rfl)
    have dh := cell_as (v' := none) dh0 (by with_unfolding_all rfl)
    have dw := cell_as (v' := none) dw0 (by with_unfolding_all rfl)
    have dn := cell_as (v' := none) dn0 (by with_unfolding_all rfl)
    clear F0 dp0 dh0 dw0 dn0
    rename_i hC0 z0 o4 o3 o2 o1 X0
    clear X0
    walk1
    walk1
    refine some_cut lF lN ?sa ?sb
    case sa =>
      tb_start
      k_dflt (refine' LCg.ListComp_U lF (by with_unfolding_all rfl) (by decide) (by rfl) (by decide) (by rfl) ?_)
      tb_start
      rename Fr _ _ _ _ => cF
      rename News _ _ _ _ => cN
      rename IntsAre _ (List.take 8 _) => hI8
      obtain ⟨l8, rfl, hl8⟩ := ints_ivs hI8
      have hl8len : l8.length ≤ 8 := by
        have h9 := congrArg List.length hl8
        rw [List.length_map, List.length_take] at h9
        omega
      k_dflt (refine' LCg.CompSrc.ledger (by rfl) cF cN (by k_mem) ?ksz ?_)
      case ksz => rw [List.size_toArray, ivs_length, sizeLine_eq]; omega
      intro g
      have hsz : (ivs l8).toArray.size = l8.length := by rw [List.size_toArray, ivs_length]
      rw [hsz]
      refine comp_ind (n := l8.length) (fun j ys nx => nx = _ ∧ ∃ ls : List IT, ys = ivs ls ∧ ls.length = j ∧ ∀ x ∈ ls, 0 ≤ x.1 ∧ x.1 < 64) ?step ?fin l8.length 0 [] _ (by omega) ⟨rfl, [], rfl, rfl, by simp⟩
      case step =>
        intro j ys nx v I2 oI2 C oC D2 m₂ h tk E' hj hJ hPv hC hx F3 N3 off ne
        obtain ⟨rfl, ls, rfl, hls, hlr⟩ := hJ
        have hv : v = .int (l8.getD j (0, 0)).1 (l8.getD j (0, 0)).2 := by
          have h9 := ivs_get hj
          rw [show (ivs l8).toArray[j]? = (ivs l8)[j]? by simp, h9] at hPv
          exact (Option.some.inj hPv).symm
        subst hv
        try clear cF
        try clear cN
        tb_start
        refine ⟨h, _, _, rfl, F3, N3, off, .inr ⟨_, by k_mem, rfl, _, rfl⟩, rfl, ls ++ [((l8.getD j (0, 0)).1 % 64, _)], by simp only [ivs, iv, List.map_append, List.map_cons, List.map_nil]; rfl, by simp [hls], ?_⟩
        intro x hx
        rcases List.mem_append.mp hx with hx | hx
        · exact hlr x hx
        · rw [List.mem_singleton.mp hx]
          exact ⟨Int.emod_nonneg _ (by decide), Int.emod_lt_of_pos _ (by decide)⟩
      case fin =>
        rintro ys nx ⟨rfl, ls, rfl, hls, hlr⟩
        unfold LCg.FinE
        intro D3 h3 tk3 F3 N3 o3
        rw [lst_ivs] at N3
        have o3' := o3
        simp only [LCg.Off1, and_true] at o3
        try clear cF
        try clear cN
        refine i_truthy N3 (.head _) (by omega) (fun k9 => ?_)
        dsimp only
        by_cases h0 : 0 < ls.length
        · rw [if_pos (decide_eq_true h0)]
          refine ⟨D3, ls, ls.length, h3, _, rfl, rfl, F3, news_sub N3 (fun p hp => by rcases List.mem_cons.mp hp with rfl | hp; exact .head _; exact .tail _ (.tail _ hp)), o3'.2, h0, by omega, hlr⟩
        · rw [if_neg (by simpa using h0)]
          tb_start
          rename Fr _ _ _ _ => F4
          rename News _ _ _ _ => N4
          rename (D3 < _ ∧ _) => o4
          refine ⟨_, [(19, _), (3, _), (19, _)], 0, _, _, rfl, rfl, F4, news_sub N4 (fun p hp => by rcases List.mem_cons.mp hp with rfl | hp; exact .head _; exact .tail _ (.tail _ (.tail _ hp))), ?_, by show 1 ≤ 3; decide, by show 3 ≤ 8; decide, ?_⟩
          · simp only [LCg.Off1, and_true]
            refine ⟨?_, ?_, ?_, ?_⟩ <;> omega
          · intro x hx
            simp only [List.mem_cons, List.not_mem_nil, or_false] at hx
            rcases hx with rfl | rfl | rfl <;> exact ⟨by dsimp only; omega, by dsimp only; omega⟩
    case sb =>
      intro Ds ls ns h tk ls1 ls2 lsr F N o
      simp only [LCg.Off1, and_true] at o
      clear lF lN
      tb_start
      rename_i h1 h2 o5 F1 N1 d1 h3 tk3 t1 u1 v1 hR F2 N2 hk2
      clear F1 N1 hk2
      obtain ⟨t5, d5⟩ : ∃ t, o5.data = .cell (some (.int 0 t)) := ⟨_, d1⟩
      clear d1
      k_dflt (refine' kst_range (σ := Obj × Nat × Tok) (fun c => [(Ds, ilist ls ns), (_, o4), (_, o3), (_, o2), (_, c.1)]) (fun _ => []) (fun _ => True) []
                (fun pre c => NumLt c.2.1 pre.length ∧ c.1.data = .cell (some (.int (c.2.1 : Int) c.2.2))) (o5, 0, t5) ?q1 hR (by decide) (n := 8) (by decide) F2 N2 ?qf ?qk ?qp ?turn ?done)
      case q1 => rfl
      case qf => trivial
      case qk => kst_all
      case qp => exact ⟨by show 0 < 1; decide, d5⟩
      case turn =>
        intro c pre k tk1 u h tk own hk1 hlt hoff _ hP F1 N1
        clear F2 N2
        obtain ⟨oc, Nn, tc⟩ := c
        dsimp only [kstB] at *
        obtain ⟨hq1, hq2⟩ := hP
        simp only [List.cons_append] at N1
        try k_fold
        have hm0 := Int.emod_nonneg k (b := (ls.length : Int)) (by omega)
        have hm1 := Int.emod_lt_of_pos k (b := (ls.length : Int)) (by omega)
        tb_start
        rename Fr _ _ _ _ => eF
        rename News _ _ _ _ => eN
        rename (_ = Data.cell (some (Value.int (_ + _) _))) => eD
        have hx := getD_bound (j := (k % (ls.length : Int)).toNat) lsr (by omega)
        have eZ : 64 * (Nn : Int) + (ls.getD (k % (ls.length : Int)).toNat (0, 0)).1 = ((64 * Nn + (ls.getD (k % (ls.length : Int)).toNat (0, 0)).1.toNat : Nat) : Int) := by omega
        rw [eZ] at eD
        rename Obj => o6
        refine kst_end (o6, 64 * Nn + (ls.getD (k % (ls.length : Int)).toNat (0, 0)).1.toNat, _) eF eN (fun p hp => ?_) (fun p hp => ?_) rfl trivial (by kst_all) (by kst_same) ⟨?_, eD⟩
        · rcases List.mem_cons.mp hp with rfl | hp
          · exact .head _
          · rcases List.mem_cons.mp hp with rfl | hp
            · exact .tail _ (.head _)
            · rcases List.mem_cons.mp hp with rfl | hp
              · exact .tail _ (.tail _ (.head _))
              · rcases List.mem_cons.mp hp with rfl | hp
                · exact .tail _ (.tail _ (.tail _ (.head _)))
                · rcases List.mem_cons.mp hp with rfl | hp
                  · exact .tail _ (.tail _ (.tail _ (.tail _ (.head _))))
                  · cases hp
        · exact .tail _ (.tail _ (.tail _ (.tail _ (.tail _ (List.mem_append.mpr (.inr hp))))))
        · rw [List.length_append]
          exact numLt_step hq1 hx.1 hx.2
      case done =>
        intro c u h tk _ hP F1 N1
        clear F2 N2 hR d5
        obtain ⟨oc, Nn, tc⟩ := c
        dsimp only [kstB] at *
        obtain ⟨hq1, hq2⟩ := hP
        rw [rangeKs_length] at hq1
        try k_fold
        tb_start
        rename Fr _ _ _ _ => F9
        rename News _ _ _ _ => N9
        rename Obj => o2
        rename (_ = Data.cell (some (Value.int _ _))) => d2
        clear F1 N1
        have hN0 : 0 ≤ (Nn : Int) := by omega
        have hN1 : (Nn : Int) < 2 ^ 48 := by
          have : Nn < 64 ^ 8 := hq1
          omega
        have d2' : ∃ t, o2.data = .cell (some (.int 281474976710656 t)) := ⟨_, d2⟩
        clear d2
        obtain ⟨t2, d2⟩ := d2'
        as_aux_lemma =>
          k_dflt (refine' LCg.Assign_ListComp_U F9 (by rfl) (by with_unfolding_all rfl) (by rfl) (by decide) (by rfl) (by decide) (by rfl) (by rfl) (by rfl) ?_)
          tb_start
          rename Fr _ _ _ _ => cF
          rename News _ _ _ _ => cN
          rename IsRange _ _ _ _ _ _ _ _ => hR
          k_dflt (refine' LCg.CompSrc.range (by rfl) cF cN hR (by decide) (n := 12) (by decide) (by rw [sizeLine_eq]; decide) ?_)
          intro g
          refine comp_ind (n := 12) (fun j ys nx => nx = _ ∧ ∃ lf : List IT, ys = ivs lf ∧ lf.map (·.1) = (List.range j).map (fun k => ((turnN 16 12 Nn k : Nat) : Int))) ?step ?fin 12 0 [] _ rfl ⟨rfl, [], rfl, rfl⟩
          case step =>
            intro j ys nx v I2 oI2 C oC D2 m₂ h tk E' hj hJ hPv hC hx F3 N3 off ne
            obtain ⟨rfl, lf, rfl, hlf⟩ := hJ
            obtain ⟨tv, rfl⟩ := hPv
            k_sweep
            tb_start
            rw [four_eq Nn j hj]
            refine ⟨h, _, _, rfl, F3, N3, off, trivial, rfl, lf ++ [(((turnN 16 12 Nn j : Nat) : Int), _)], by simp only [ivs, iv, List.map_append, List.map_cons, List.map_nil]; rfl, ?_⟩
            rw [List.map_append, hlf, range_snoc]
            rfl
          case fin =>
            rintro ys nx ⟨rfl, lf, rfl, hlf⟩
            unfold LCg.FinA
            intro Df h3 tk3 F3 N3 q3
            rw [lst_ivs] at N3
            k_sweep
            replace N3 := news_drop1 N3
            have q4 := q3.2
            clear o q3
            have hlfl : lf.length = 12 := by
              have h9 := congrArg List.length hlf
              simpa using h9
            dsimp only
            as_aux_lemma =>
              tb_start
              rename Fr _ _ _ _ => aF
              k_dflt (refine' LCg.Assign_ListComp_U aF (by rfl) (by with_unfolding_all rfl) (by rfl) (by decide) (by rfl) (by decide) (by rfl) (by rfl) (by rfl) ?_)
              tb_start
              rename Fr _ _ _ _ => cF
              rename News _ _ _ _ => cN
              k_dflt (refine' LCg.CompSrc.ledger (by rfl) cF cN (by k_mem) ?ksz ?_)
              case ksz => rw [List.size_toArray, ivs_length, sizeLine_eq]; omega
              intro g
              have hsz : (ivs lf).toArray.size = lf.length := by rw [List.size_toArray, ivs_length]
              rw [hsz]
              refine comp_ind (n := lf.length) (fun j ys nx => nx = _ ∧ ∃ lw : List BT, ys = bvs lw ∧ lw.map (·.1) = (List.range j).map (fun k => #[66] ++ lets letr 16 12 (turnN 16 12 Nn k))) ?step ?fin lf.length 0 [] _ (by omega) ⟨rfl, [], rfl, rfl⟩
              case step =>
                intro j ys nx v I2 oI2 C oC D2 m₂ h tk E' hj hJ hPv hC hx F5 N5 off ne
                obtain ⟨rfl, lw, rfl, hlw⟩ := hJ
                have hv : v = .int (lf.getD j (0, 0)).1 (lf.getD j (0, 0)).2 := iv_at hj hPv
                subst hv
                have hT0 : (lf.getD j (0, 0)).1 = ((turnN 16 12 Nn j : Nat) : Int) := by
                  have h9 := map_getD lf j
                  rw [← h9, hlf]
                  exact range_getD _ (by omega)
                have hT1 : turnN 16 12 Nn j < 2 ^ 48 := turn_lt 16 12 Nn j (by decide) (by show Nn < 16 ^ 12; omega) (by omega)
                k_sweep
                tb_start
                rename Fr _ _ _ _ => eF
                rename News _ _ _ _ => eN
                have hval : apGo (281474976710656 + (lf.getD j (0, 0)).1).toNat #[] = #[66] ++ lets letr 16 12 (turnN 16 12 Nn j) := by
                  rw [hT0, show (281474976710656 + ((turnN 16 12 Nn j : Nat) : Int)).toNat = 2 ^ 48 + turnN 16 12 Nn j by omega]
                  exact apGo_word _ hT1
                rw [hval]
                refine ⟨_, _, _, rfl, eF, eN, off, .inr ⟨_, .head _, rfl, _, rfl⟩, rfl, lw ++ [(_, _)], by simp only [bvs, bv, List.map_append, List.map_cons, List.map_nil]; rfl, ?_⟩
                rw [List.map_append, hlw, range_snoc]
                rfl
              case fin =>
                rintro ys nx ⟨rfl, lw, rfl, hlw⟩
                unfold LCg.FinA
                intro Dw h5 tk5 F5 N5 q5
                rw [lst_bvs] at N5
                have hlwl : lw.length = 12 := by
                  have h9 := congrArg List.length hlw
                  simpa [hlfl] using h9
                rw [hlfl] at hlw
                k_sweep
                dsimp only
                as_aux_lemma =>
                  tb_start
                  rename Fr _ _ _ _ => cF
                  k_dflt (refine' LCt.ListComp_T cF (by with_unfolding_all rfl) (by decide) (by rfl) (by decide) (by rfl) ?_)
                  tb_start
                  rename Fr _ _ _ _ => cF
                  rename News _ _ _ _ => cN
                  k_dflt (refine' LCt.CompSrcT.ledger (by rfl) cF cN (by k_mem) ?ksz ?_)
                  case ksz => rw [List.size_toArray, bvs_length, sizeLine_eq]; omega
                  intro g
                  have hsz : (bvs lw).toArray.size = lw.length := by rw [List.size_toArray, bvs_length]
                  rw [hsz]
                  refine compT_ind (n := lw.length) (fun j ys nx => nx = _ ∧ ys = []) ?step ?fin lw.length 0 [] _ (by omega) ⟨rfl, rfl⟩
                  case step =>
                    intro j ys nx v I2 oI2 C oC D2 m₂ h tk E' hj hJ hPv hC hx F7 N7 off ne
                    obtain ⟨rfl, rfl⟩ := hJ
                    have hv : v = .bytes (lw.getD j bnil).1 (lw.getD j bnil).2 := bv_at hj hPv
                    subst hv
                    have hW : (lw.getD j bnil).1 = #[66] ++ lets letr 16 12 (turnN 16 12 Nn j) := by
                      rw [← bmap_getD lw hj, hlw]
                      exact range_getD _ (by omega)
                    have hW13 : (lw.getD j bnil).1.size = 13 := by rw [hW, Array.size_append, lets_size]; rfl
                    have hW0 : (lw.getD j bnil).1.getD 0 0 = 66 := by rw [hW]; exact head66 _
                    k_sweep
                    tb_start
                    · exfalso
                      omega
                    · rename ((_ != _) = true) => hb
                      rw [hW0] at hb
                      exact absurd hb (by decide)
                    · rename Fr _ _ _ _ => eF
                      rename News _ _ _ _ => eN
                      exact ⟨_, _, _, rfl, eF, eN, off, .inr ⟨_, .head _, rfl, _, rfl⟩, rfl, trivial⟩
                  case fin =>
                    rintro ys nx ⟨rfl, rfl⟩
                    unfold LCg.FinE
                    intro De h7 tk7 F7 N7 q7
                    k_sweep
                    dsimp only
                    tb_start
                    as_aux_lemma =>
                      rename Fr _ _ _ _ => F8
                      rename News _ _ _ _ => N8
                      replace N8 := news_drop0 (news_drop0 N8)
                      clear q7
                      k_dflt (refine' wpAny_Assign_Name ?_ (by with_unfolding_all rfl))
                      k_dflt (refine' LCg.ListComp_U F8 (by with_unfolding_all rfl) (by decide) (by rfl) (by decide) (by rfl) ?_)
                      tb_start
                      rename Fr _ _ _ _ => cF
                      rename News _ _ _ _ => cN
                      k_dflt (refine' LCg.CompSrc.ledger (by rfl) cF cN (by k_mem) ?ksz ?_)
                      case ksz => rw [List.size_toArray, bvs_length, sizeLine_eq]; omega
                      intro g
                      have hsz : (bvs lw).toArray.size = lw.length := by rw [List.size_toArray, bvs_length]
                      rw [hsz]
                      refine comp_ind (n := lw.length) (fun j ys nx => nx = _ ∧ ∃ lh : List BT, ys = bvs lh ∧ lh.map (·.1) = (List.range j).map (fun k => lets letr 16 12 (turnN 16 12 Nn k))) ?step ?fin lw.length 0 [] _ (by omega) ⟨rfl, [], rfl, rfl⟩
                      case step =>
                        intro j ys nx v I2 oI2 C oC D2 m₂ h tk E' hj hJ hPv hC hx F9 N9 off ne
                        obtain ⟨rfl, lh, rfl, hlh⟩ := hJ
                        have hv : v = .bytes (lw.getD j bnil).1 (lw.getD j bnil).2 := bv_at hj hPv
                        subst hv
                        have hW : (lw.getD j bnil).1 = #[66] ++ lets letr 16 12 (turnN 16 12 Nn j) := by
                          rw [← bmap_getD lw hj, hlw]
                          exact range_getD _ (by omega)
                        have hW13 : (lw.getD j bnil).1.size = 13 := by rw [hW, Array.size_append, lets_size]; rfl
                        k_sweep
                        tb_start
                        rename Fr _ _ _ _ => eF
                        rename News _ _ _ _ => eN
                        refine ⟨_, _, _, rfl, eF, eN, off, .inr ⟨_, .head _, rfl, _, rfl⟩, rfl, lh ++ [(_, _)], by simp only [bvs, bv, List.map_append, List.map_cons, List.map_nil]; rfl, ?_⟩
                        rw [List.map_append, hlh, range_snoc]
                        show _ ++ [_] = _ ++ [_]
                        rw [hW, tail66]
                      case fin =>
                        rintro ys nx ⟨rfl, lh, rfl, hlh⟩
                        unfold LCg.FinE
                        intro Dh h9 tk9 F9 N9 q9
                        rw [lst_bvs] at N9
                        have hlhl : lh.length = 12 := by
                          have h9 := congrArg List.length hlh
                          simpa [hlwl] using h9
                        rw [hlwl] at hlh
                        k_sweep
                        dsimp only
                        obtain ⟨e1, e2, e3, e4, e5, e6, -⟩ := id q9
                        obtain ⟨-, -, e7, -⟩ := id q5
                        obtain ⟨-, e8, -⟩ := id q4
                        dsimp only at e1 e2 e3 e4 e5 e6 e7 e8
                        tb_start
                        clear e1 e2 e3 e4 e5 e6 e7 e8
                        rename Fr _ _ _ _ => F10
                        rename News _ _ _ _ => N10
                        rename Obj => o3
                        rename (_ = Data.cell (some (Value.ref _))) => d3
                        as_aux_lemma =>
                          have hP0 := popping_start hlhl
                          have hQ := hfy_perm hlhl 6 (Nat.le_refl _)
                          generalize hfyGo lh 6 = lq at hP0 hQ N10
                          k_dflt (refine' LCg.Assign_ListComp_U F10 (by rfl) (by with_unfolding_all rfl) (by with_unfolding_all rfl) (by decide) (by rfl) (by decide) (by rfl) (by rfl) (by rfl) ?_)
                          tb_start
                          rename Fr _ _ _ _ => cF
                          rename News _ _ _ _ => cN
                          k_dflt (refine' LCg.CompSrc.ledger (by rfl) cF cN (by k_mem) ?ksz ?_)
                          case ksz => rw [List.size_toArray, bvs_length, sizeLine_eq]; omega
                          intro g
                          have hsz : (bvs lw).toArray.size = lw.length := by rw [List.size_toArray, bvs_length]
                          rw [hsz]
                          refine comp_ind (n := lw.length) (fun j ys nx => ∃ (lo hl : List BT) (n : Nat), ys = bvs lo ∧ nx = (Dh, blist hl n) :: _ ∧ hl.length + j = 12 ∧ Popping lq lo hl) ?step ?fin lw.length 0 [] _ (by omega) ⟨[], lq, _, rfl, rfl, hP0.2, hP0.1⟩
                          case step =>
                            intro j ys nx v I2 oI2 C oC D2 m₂ h tk E' hj hJ hPv hC hx F9 N9 off ne
                            obtain ⟨lo, hl, n, rfl, rfl, hll, hP⟩ := hJ
                            have hv : v = .bytes (lw.getD j bnil).1 (lw.getD j bnil).2 := bv_at hj hPv
                            subst hv
                            obtain ⟨l1, q1, rfl⟩ := split_last hl (by omega)
                            have hl1 : l1.length + 1 + j = 12 := by simpa using hll
                            obtain ⟨f1, f2, f3⟩ := off.1
                            obtain ⟨g1, g2, g3, g4, g5, g6, -⟩ := id q9
                            dsimp only at f1 f2 f3 g1 g2 g3 g4 g5 g6
                            k_sweep
                            tb_start
                            rename Fr _ _ _ _ => eF
                            rename News _ _ _ _ => eN
                            refine ⟨_, _, _, rfl, eF, eN, off, .inr ⟨_, .tail _ (.head _), rfl, _, rfl⟩, lo ++ [popV l1 q1], popL l1 q1, _, by simp [bvs], rfl, ?_, hP.step⟩
                            rw [popL_length]
                            omega
                          case fin =>
                            rintro ys nx ⟨lo, hl, n, rfl, rfl, hll, hP⟩
                            unfold LCg.FinA
                            intro Do h11 tk11 F11 N11 q11
                            rw [lst_bvs] at N11
                            obtain rfl : hl = [] := List.length_eq_zero_iff.mp (by omega)
                            have hT := turned_of hlh hQ hP
                            have hlol := hT.len
                            have q6 := q11.2.2
                            clear hP hP0 hQ hlh hlhl hlw q5 q9 q11
                            k_sweep
                            dsimp only
                            tb_start
                            rename Fr _ _ _ _ => F12
                            rename News _ _ _ _ => N12
                            replace N12 := news_drop1 (news_drop1 (news_drop0 N12))
                            as_aux_lemma =>
                              k_dflt (refine' LCg.ListComp_U F12 (by with_unfolding_all rfl) (by decide) (by rfl) (by decide) (by rfl) ?_)
                              tb_start
                              rename Fr _ _ _ _ => cF
                              rename News _ _ _ _ => cN
                              k_dflt (refine' LCg.CompSrc.ledger (by rfl) cF cN (by k_mem) ?ksz ?_)
                              case ksz => rw [List.size_toArray, bvs_length, sizeLine_eq]; omega
                              intro g
                              have hsz : (bvs lo).toArray.size = lo.length := by rw [List.size_toArray, bvs_length]
                              rw [hsz]
                              refine comp_ind (n := lo.length) (fun j ys nx => nx = _ ∧ ∃ le : List IT, ys = ivs le ∧ le.map (·.1) = (List.range j).map (fun k => lastI (lo.getD k bnil).1)) ?step ?fin lo.length 0 [] _ (by omega) ⟨rfl, [], rfl, rfl⟩
                              case step =>
                                intro j ys nx v I2 oI2 C oC D2 m₂ h tk E' hj hJ hPv hC hx F9 N9 off ne
                                obtain ⟨rfl, le, rfl, hle⟩ := hJ
                                have hv : v = .bytes (lo.getD j bnil).1 (lo.getD j bnil).2 := bv_at hj hPv
                                subst hv
                                have hW12 : (lo.getD j bnil).1.size = 12 := hT.size (by omega)
                                k_sweep
                                tb_start
                                rename Fr _ _ _ _ => eF
                                rename News _ _ _ _ => eN
                                refine ⟨_, _, _, rfl, eF, eN, off, .inr ⟨_, .head _, rfl, _, rfl⟩, rfl, le ++ [(_, _)], by simp only [ivs, iv, List.map_append, List.map_cons, List.map_nil]; rfl, ?_⟩
                                rw [List.map_append, hle, range_snoc]
                                show _ ++ [_] = _ ++ [_]
                                rw [← lastI_at hW12]
                                rfl
                              case fin =>
                                rintro ys nx ⟨rfl, le, rfl, hle⟩
                                unfold LCg.FinE
                                intro De h13 tk13 F13 N13 q13
                                rw [lst_ivs] at N13
                                rw [range_map_getD] at hle
                                have hlel : le.length = 12 := by
                                  have h9 := congrArg List.length hle
                                  simpa [hlol] using h9
                                have hler : ∀ x ∈ le.map (·.1), 0 ≤ x ∧ x < 256 := by
                                  intro x hx
                                  rw [hle] at hx
                                  obtain ⟨r, _, rfl⟩ := List.mem_map.mp hx
                                  exact lastI_range r
                                have hrows : ∀ rows : List BT, rows.map (·.1) = (List.range le.length).map (toldRow (le.map (·.1))) → lo.map (·.1) = rows.map (·.1) := by
                                  intro rows hr
                                  rw [hr, hle, hlel]
                                  exact (hT.told (by decide) (by show Nn < 16 ^ 12; omega)).symm
                                k_sweep
                                dsimp only
                                tb_start
                                rename Fr _ _ _ _ => F14
                                rename News _ _ _ _ => N14
                                replace N14 := news_drop0 (news_drop0 N14)
                                clear q13 hle hler
                                as_aux_lemma =>
                                  k_dflt (refine' LCg.ListComp_U F14 (by with_unfolding_all rfl) (by decide) (by rfl) (by decide) (by rfl) ?_)
                                  tb_start
                                  rename Fr _ _ _ _ => cF
                                  rename News _ _ _ _ => cN
                                  k_dflt (refine' LCg.CompSrc.ledger (by rfl) cF cN (by k_mem) ?ksz ?_)
                                  case ksz => rw [List.size_toArray, bvs_length, sizeLine_eq]; omega
                                  intro g
                                  have hsz : (bvs lo).toArray.size = lo.length := by rw [List.size_toArray, bvs_length]
                                  rw [hsz]
                                  refine comp_ind (n := lo.length) (fun j ys nx => nx = _ ∧ ∃ lr : List IT, ys = ivs lr ∧ lr.map (·.1) = (List.range j).map (fun k => rd AP (lo.getD k bnil).1)) ?step ?fin lo.length 0 [] _ (by omega) ⟨rfl, [], rfl, rfl⟩
                                  case step =>
                                    intro j ys nx v I2 oI2 C oC D2 m₂ h tk E' hj hJ hPv hC hx F9 N9 off ne
                                    obtain ⟨rfl, lr, rfl, hlr⟩ := hJ
                                    have hv : v = .bytes (lo.getD j bnil).1 (lo.getD j bnil).2 := bv_at hj hPv
                                    subst hv
                                    have hW12 : (lo.getD j bnil).1.size = 12 := hT.size (by omega)
                                    k_sweep
                                    tb_start
                                    rename Fr _ _ _ _ => eF
                                    rename News _ _ _ _ => eN
                                    refine ⟨_, _, _, rfl, eF, eN, off, .inr ⟨_, .head _, rfl, _, rfl⟩, rfl, lr ++ [(_, _)], by simp only [ivs, iv, List.map_append, List.map_cons, List.map_nil]; rfl, ?_⟩
                                    rw [List.map_append, hlr, range_snoc]
                                    rfl
                                  case fin =>
                                    rintro ys nx ⟨rfl, lr, rfl, hlr⟩
                                    unfold LCg.FinE
                                    intro De h15 tk15 F15 N15 q15
                                    rw [lst_ivs] at N15
                                    rw [range_map_getD] at hlr
                                    have hR := hT.reads4 (by show Nn < 16 ^ 12; omega)
                                    rw [← hlr, ← hlf] at hR
                                    obtain ⟨hR1, hR2⟩ := hR
                                    k_sweep
                                    dsimp only
                                    tb_start
                                    rename Fr _ _ _ _ => F16
                                    rename News _ _ _ _ => N16
                                    replace N16 := news_drop0 (news_drop0 (news_drop0 (news_drop0 N16)))
                                    clear q4 q6 q15 hT hlr hR1 hR2 hlf hlfl hlwl hlol hlel
                                    as_aux_lemma =>
                                      k_dflt (refine' LCg.Assign_ListComp_U F16 (by rfl) (by with_unfolding_all rfl) (by rfl) (by decide) (by rfl) (by decide) (by rfl) (by rfl) (by rfl) ?_)
                                      tb_start
                                      rename Fr _ _ _ _ => cF
                                      rename News _ _ _ _ => cN
                                      rename IsRange _ _ _ _ _ _ _ _ => hR
                                      k_dflt (refine' LCg.CompSrc.range (by rfl) cF cN hR (by decide) (n := 8) (by decide) (by rw [sizeLine_eq]; decide) ?_)
                                      intro g
                                      refine comp_ind (n := 8) (fun j ys nx => nx = _ ∧ ∃ lx : List IT, ys = ivs lx ∧ lx.map (·.1) = (List.range j).map (fun k => ((turnN 64 8 Nn k : Nat) : Int))) ?step ?fin 8 0 [] _ rfl ⟨rfl, [], rfl, rfl⟩
                                      case step =>
                                        intro j ys nx v I2 oI2 C oC D2 m₂ h tk E' hj hJ hPv hC hx F3 N3 off ne
                                        obtain ⟨rfl, lx, rfl, hlx⟩ := hJ
                                        obtain ⟨tv, rfl⟩ := hPv
                                        k_sweep
                                        tb_start
                                        rw [six_eq Nn j hj]
                                        refine ⟨h, _, _, rfl, F3, N3, off, trivial, rfl, lx ++ [(((turnN 64 8 Nn j : Nat) : Int), _)], by simp only [ivs, iv, List.map_append, List.map_cons, List.map_nil]; rfl, ?_⟩
                                        rw [List.map_append, hlx, range_snoc]
                                        rfl
                                      case fin =>
                                        rintro ys nx ⟨rfl, lx, rfl, hlx⟩
                                        unfold LCg.FinA
                                        intro Dx h17 tk17 F17 N17 q17
                                        rw [lst_ivs] at N17
                                        k_sweep
                                        have hlxl : lx.length = 8 := by
                                          have h9 := congrArg List.length hlx
                                          simpa using h9
                                        obtain ⟨e1, e2, e3, e4, -⟩ := id q17
                                        dsimp only at e1 e2 e3 e4
                                        dsimp only
                                        tb_start
                                        rename_i Dp hh1 q18 hh2 o4 F18 N18 d4
                                        as_aux_lemma =>
                                          have hlxr : ∀ x ∈ lx.map (·.1), 0 ≤ x ∧ x < 2 ^ 48 := by
                                            intro x hx
                                            rw [hlx] at hx
                                            obtain ⟨k, hk, rfl⟩ := List.mem_map.mp hx
                                            have h9 := turn_lt 64 8 Nn k (by decide) hq1 (Nat.le_of_lt (List.mem_range.mp hk))
                                            have h8 : turnN 64 8 Nn k < 2 ^ 48 := h9
                                            omega
                                          k_dflt (refine' kst_listL (σ := List BT × Nat) (fun c => [(Dp, blist c.1 c.2), (Dx, ilist lx lx.length), (_, o4), (_, o3), (_, o2), (_, oc)]) (fun _ => []) (fun _ => True) [] (fun pre c => HeapFrom c.1 0 ∧ (c.1.map (·.1)).Perm (pre.map sgn)) ([], 0) ?q1 (fun c => .tail _ (.head _)) (ivs_ints lx) F18 N18 trivial ?qk ?qp ?turn ?done)
                                          case q1 => rfl
                                          case qk => kst_all
                                          case qp => exact ⟨fun c _ hc => absurd hc (Nat.not_lt_zero _), List.Perm.refl _⟩
                                          case turn =>
                                            intro c pre post n t u h tk own hns hn hoff _ hP F1 N1
                                            clear F18 N18
                                            obtain ⟨lp, np⟩ := c
                                            dsimp only [kstB] at *
                                            obtain ⟨hp1, hp2⟩ := hP
                                            simp only [List.cons_append, List.nil_append] at N1
                                            have hlpl : lp.length = pre.length := by
                                              have h9 := hp2.length_eq
                                              simpa using h9
                                            have hpre : pre.length + post.length + 1 = 8 := by
                                              have h9 := congrArg List.length hns
                                              simp at h9
                                              omega
                                            obtain ⟨hn0, hn1⟩ := hlxr n hn
                                            have hown : ∀ p ∈ own, p.1 ≠ Dp := fun p h9 => hoff p h9 Dp (List.mem_cons_self ..)
                                            try k_fold
                                            tb_start
                                            rename_i gh2 gt2 tv2 gh1 gt1 tv1 gh0 gt0 eF eN
                                            rw [enc_sgn n hn0] at eN
                                            have hps := push_spec (q := (sgn n, tv1)) hp1
                                            refine kst_end (sdGo (sgn n, tv1) 0 (lp ++ [(sgn n, tv1)]) lp.length, np + 1) eF eN (fun p hp => ?_) (fun p hp => ?_) rfl trivial (by kst_all) (by kst_same) ⟨hps.1, ?_⟩
                                            · rcases List.mem_cons.mp hp with rfl | hp
                                              · exact .head _
                                              · rcases List.mem_cons.mp hp with rfl | hp
                                                · exact .tail _ (.head _)
                                                · rcases List.mem_cons.mp hp with rfl | hp
                                                  · exact .tail _ (.tail _ (.head _))
                                                  · rcases List.mem_cons.mp hp with rfl | hp
                                                    · exact .tail _ (.tail _ (.tail _ (.head _)))
                                                    · rcases List.mem_cons.mp hp with rfl | hp
                                                      · exact .tail _ (.tail _ (.tail _ (.tail _ (.head _))))
                                                      · rcases List.mem_cons.mp hp with rfl | hp
                                                        · exact .tail _ (.tail _ (.tail _ (.tail _ (.tail _ (.head _)))))
                                                        · cases hp
                                            · exact .tail _ (.tail _ (.tail _ (.tail _ (.tail _ (.tail _ hp)))))
                                            · rw [List.map_append]
                                              exact pushed_perm hps.2 hp2
                                          case done =>
                                            intro c u h tk _ hP F1 N1
                                            clear F18 N18
                                            obtain ⟨lp, np⟩ := c
                                            dsimp only [kstB] at *
                                            obtain ⟨hp1, hp2⟩ := hP
                                            try k_fold
                                            tb_start
                                            rename Fr _ _ _ _ => F20
                                            rename News _ _ _ _ => N20
                                            have hlpl : lp.length = 8 := by
                                              have h9 := hp2.length_eq
                                              simpa [hlxl] using h9
                                            have hP0 : Popping lp [] lp := ⟨hp1, List.Perm.refl _, List.Pairwise.nil, fun a ha => by cases ha⟩
                                            clear e1 e2 e3 e4 hp1
                                            as_aux_lemma =>
                                              k_dflt (refine' LCg.Assign_ListComp_U F20 (by rfl) (by with_unfolding_all rfl) (by with_unfolding_all rfl) (by decide) (by rfl) (by decide) (by rfl) (by rfl) (by rfl) ?_)
                                              tb_start
                                              rename Fr _ _ _ _ => cF
                                              rename News _ _ _ _ => cN
                                              k_dflt (refine' LCg.CompSrc.ledger (by rfl) cF cN (by k_mem) ?ksz ?_)
                                              case ksz => rw [List.size_toArray, ivs_length, sizeLine_eq]; omega
                                              intro g
                                              have hsz : (ivs lx).toArray.size = lx.length := by rw [List.size_toArray, ivs_length]
                                              rw [hsz]
                                              refine comp_ind (n := lx.length) (fun j ys nx => ∃ (lo hl : List BT) (n : Nat), ys = bvs lo ∧ nx = (Dp, blist hl n) :: _ ∧ hl.length + j = 8 ∧ Popping lp lo hl) ?step ?fin lx.length 0 [] _ (by omega) ⟨[], lp, _, rfl, rfl, hlpl, hP0⟩
                                              case step =>
                                                intro j ys nx v I2 oI2 C oC D2 m₂ h tk E' hj hJ hPv hC hx F9 N9 off ne
                                                obtain ⟨lo, hl, n, rfl, rfl, hll, hP⟩ := hJ
                                                have hv : v = .int (lx.getD j (0, 0)).1 (lx.getD j (0, 0)).2 := iv_at hj hPv
                                                subst hv
                                                obtain ⟨l1, q1, rfl⟩ := split_last hl (by omega)
                                                have hl1 : l1.length + 1 + j = 8 := by simpa using hll
                                                obtain ⟨f1, f2, f3⟩ := off.1
                                                dsimp only at f1 f2 f3
                                                k_sweep
                                                tb_start
                                                rename Fr _ _ _ _ => eF
                                                rename News _ _ _ _ => eN
                                                refine ⟨_, _, _, rfl, eF, eN, off, .inr ⟨_, .tail _ (.head _), rfl, _, rfl⟩, lo ++ [popV l1 q1], popL l1 q1, _, by simp [bvs], rfl, ?_, hP.step⟩
                                                rw [popL_length]
                                                omega
                                              case fin =>
                                                rintro ys nx ⟨lo, hl, n, rfl, rfl, hll, hP⟩
                                                unfold LCg.FinA
                                                intro Dt h21 tk21 F21 N21 q21
                                                rw [lst_bvs] at N21
                                                obtain rfl : hl = [] := List.length_eq_zero_iff.mp (by omega)
                                                have hT := turned_six hlx hp2 hP
                                                have hlol := hT.len
                                                k_sweep
                                                dsimp only
                                                tb_start
                                                rename Fr _ _ _ _ => F22
                                                rename News _ _ _ _ => N22
                                                replace N22 := news_drop1 (news_drop0 N22)
                                                clear hP hP0 hp2 hlpl q21 q18 q17
                                                as_aux_lemma =>
                                                  k_dflt (refine' LCt.ListComp_T F22 (by with_unfolding_all rfl) (by decide) (by rfl) (by decide) (by rfl) ?_)
                                                  tb_start
                                                  rename Fr _ _ _ _ => cF
                                                  rename News _ _ _ _ => cN
                                                  k_dflt (refine' LCt.CompSrcT.ledger (by rfl) cF cN (by k_mem) ?ksz ?_)
                                                  case ksz => rw [List.size_toArray, bvs_length, sizeLine_eq]; omega
                                                  intro g
                                                  have hsz : (bvs lo).toArray.size = lo.length := by rw [List.size_toArray, bvs_length]
                                                  rw [hsz]
                                                  refine compT_ind (n := lo.length) (fun j ys nx => nx = _ ∧ ys = []) ?step ?fin lo.length 0 [] _ (by omega) ⟨rfl, rfl⟩
                                                  case step =>
                                                    intro j ys nx v I2 oI2 C oC D2 m₂ h tk E' hj hJ hPv hC hx F7 N7 off ne
                                                    obtain ⟨rfl, rfl⟩ := hJ
                                                    have hv : v = .bytes (lo.getD j bnil).1 (lo.getD j bnil).2 := bv_at hj hPv
                                                    subst hv
                                                    have hW8 : (lo.getD j bnil).1.size = 8 := hT.size (by omega)
                                                    k_sweep
                                                    tb_start
                                                    · exfalso
                                                      omega
                                                    · rename Fr _ _ _ _ => eF
                                                      rename News _ _ _ _ => eN
                                                      exact ⟨_, _, _, rfl, eF, eN, off, .inr ⟨_, .head _, rfl, _, rfl⟩, rfl, trivial⟩
                                                  case fin =>
                                                    rintro ys nx ⟨rfl, rfl⟩
                                                    unfold LCg.FinE
                                                    intro De h7 tk7 F7 N7 q7
                                                    k_sweep
                                                    dsimp only
                                                    tb_start
                                                    rename Fr _ _ _ _ => F24
                                                    rename News _ _ _ _ => N24
                                                    replace N24 := news_drop0 (news_drop0 N24)
                                                    clear q7
                                                    as_aux_lemma =>
                                                      k_dflt (refine' LCg.ListComp_U F24 (by with_unfolding_all rfl) (by decide) (by rfl) (by decide) (by rfl) ?_)
                                                      tb_start
                                                      rename Fr _ _ _ _ => cF
                                                      rename News _ _ _ _ => cN
                                                      k_dflt (refine' LCg.CompSrc.ledger (by rfl) cF cN (by k_mem) ?ksz ?_)
                                                      case ksz => rw [List.size_toArray, bvs_length, sizeLine_eq]; omega
                                                      intro g
                                                      have hsz : (bvs lo).toArray.size = lo.length := by rw [List.size_toArray, bvs_length]
                                                      rw [hsz]
                                                      refine comp_ind (n := lo.length) (fun j ys nx => nx = _ ∧ ∃ le : List IT, ys = ivs le ∧ le.map (·.1) = (List.range j).map (fun k => lastI (lo.getD k bnil).1)) ?step ?fin lo.length 0 [] _ (by omega) ⟨rfl, [], rfl, rfl⟩
                                                      case step =>
                                                        intro j ys nx v I2 oI2 C oC D2 m₂ h tk E' hj hJ hPv hC hx F9 N9 off ne
                                                        obtain ⟨rfl, le, rfl, hle⟩ := hJ
                                                        have hv : v = .bytes (lo.getD j bnil).1 (lo.getD j bnil).2 := bv_at hj hPv
                                                        subst hv
                                                        have hW8 : (lo.getD j bnil).1.size = 8 := hT.size (by omega)
                                                        k_sweep
                                                        tb_start
                                                        rename Fr _ _ _ _ => eF
                                                        rename News _ _ _ _ => eN
                                                        refine ⟨_, _, _, rfl, eF, eN, off, .inr ⟨_, .head _, rfl, _, rfl⟩, rfl, le ++ [(_, _)], by simp only [ivs, iv, List.map_append, List.map_cons, List.map_nil]; rfl, ?_⟩
                                                        rw [List.map_append, hle, range_snoc]
                                                        show _ ++ [_] = _ ++ [_]
                                                        rw [← lastI_at hW8]
                                                        rfl
                                                      case fin =>
                                                        rintro ys nx ⟨rfl, le, rfl, hle⟩
                                                        unfold LCg.FinE
                                                        intro De h13 tk13 F13 N13 q13
                                                        rw [lst_ivs] at N13
                                                        rw [range_map_getD] at hle
                                                        have hlel : le.length = 8 := by
                                                          have h9 := congrArg List.length hle
                                                          simpa [hlol] using h9
                                                        have hler : ∀ x ∈ le.map (·.1), 0 ≤ x ∧ x < 256 := by
                                                          intro x hx
                                                          rw [hle] at hx
                                                          obtain ⟨r, _, rfl⟩ := List.mem_map.mp hx
                                                          exact lastI_range r
                                                        have hrows : ∀ rows : List BT, rows.map (·.1) = (List.range le.length).map (toldRow (le.map (·.1))) → lo.map (·.1) = rows.map (·.1) := by
                                                          intro rows hr
                                                          rw [hr, hle, hlel]
                                                          exact (hT.told (by decide) (by show Nn < 64 ^ 8; exact hq1)).symm
                                                        k_sweep
                                                        dsimp only
                                                        tb_start
                                                        rename Fr _ _ _ _ => F26
                                                        rename News _ _ _ _ => N26
                                                        replace N26 := news_drop0 (news_drop0 N26)
                                                        clear q13 hle hler
                                                        as_aux_lemma =>
                                                          k_dflt (refine' LCg.Assign_ListComp_U F26 (by rfl) (by with_unfolding_all rfl) (by with_unfolding_all rfl) (by decide) (by rfl) (by decide) (by rfl) (by rfl) (by rfl) ?_)
                                                          tb_start
                                                          rename Fr _ _ _ _ => cF
                                                          rename News _ _ _ _ => cN
                                                          k_dflt (refine' LCg.CompSrc.ledger (by rfl) cF cN (by k_mem) ?ksz ?_)
                                                          case ksz => rw [List.size_toArray, bvs_length, sizeLine_eq]; omega
                                                          intro g
                                                          have hsz : (bvs lo).toArray.size = lo.length := by rw [List.size_toArray, bvs_length]
                                                          rw [hsz]
                                                          refine comp_ind (n := lo.length) (fun j ys nx => nx = _ ∧ ∃ lv : List IT, ys = ivs lv ∧ lv.map (·.1) = (List.range j).map (fun k => rd B64.toArray (lo.getD k bnil).1)) ?step ?fin lo.length 0 [] _ (by omega) ⟨rfl, [], rfl, rfl⟩
                                                          case step =>
                                                            intro j ys nx v I2 oI2 C oC D2 m₂ h tk E' hj hJ hPv hC hx F9 N9 off ne
                                                            obtain ⟨rfl, lv, rfl, hlv⟩ := hJ
                                                            have hv : v = .bytes (lo.getD j bnil).1 (lo.getD j bnil).2 := bv_at hj hPv
                                                            subst hv
                                                            have hW8 : (lo.getD j bnil).1.size = 8 := hT.size (by omega)
                                                            rename Frag.In _ _ => KX0
                                                            have KI := Frag.In.keeps KX0 F9.keep
                                                            k_sweep
                                                            tb_start
                                                            rename Fr _ _ _ _ => eF
                                                            rename News _ _ _ _ => eN
                                                            refine ⟨_, _, _, rfl, eF, eN, off, .inr ⟨_, .head _, rfl, _, rfl⟩, rfl, lv ++ [(_, _)], by simp only [ivs, iv, List.map_append, List.map_cons, List.map_nil]; rfl, ?_⟩
                                                            rw [List.map_append, hlv, range_snoc]
                                                            rfl
                                                          case fin =>
                                                            rintro ys nx ⟨rfl, lv, rfl, hlv⟩
                                                            unfold LCg.FinA
                                                            intro Dv h27 tk27 F27 N27 q27
                                                            rw [lst_ivs] at N27
                                                            have hlvl : lv.length = 8 := by
                                                              have h9 := congrArg List.length hlv
                                                              simpa [hlol] using h9
                                                            have hlv2 := hlv
                                                            rw [range_map_getD] at hlv2
                                                            have hV := hT.reads6 hq1
                                                            rw [← hlv2, ← hlx] at hV
                                                            have hlvr : ∀ x ∈ lv.map (·.1), 0 ≤ x ∧ x < 2 ^ 48 := fun x hx => hlxr x (hV.mem_iff.mp hx)
                                                            k_sweep
                                                            dsimp only
                                                            tb_start
                                                            rename Fr _ _ _ _ => F28
                                                            rename News _ _ _ _ => N28
                                                            replace N28 := news_drop0 (news_drop0 N28)
                                                            clear q27 hlv2
                                                            as_aux_lemma =>
                                                              k_dflt (refine' LCg.ListComp_U F28 (by with_unfolding_all rfl) (by decide) (by rfl) (by decide) (by rfl) ?_)
                                                              tb_start
                                                              rename Fr _ _ _ _ => cF
                                                              rename News _ _ _ _ => cN
                                                              k_dflt (refine' LCg.CompSrc.ledger (by rfl) cF cN (by k_mem) ?ksz ?_)
                                                              case ksz => rw [List.size_toArray, bvs_length, sizeLine_eq]; omega
                                                              intro g
                                                              have hsz : (bvs lo).toArray.size = lo.length := by rw [List.size_toArray, bvs_length]
                                                              rw [hsz]
                                                              refine comp_ind (n := lo.length) (fun j ys nx => nx = _ ∧ ∃ ld : List BT, ys = bvs ld ∧ ld.map (·.1) = (List.range j).map (fun k => byteArr (octs (rd B64.toArray (lo.getD k bnil).1)))) ?step ?fin lo.length 0 [] _ (by omega) ⟨rfl, [], rfl, rfl⟩
                                                              case step =>
                                                                intro j ys nx v I2 oI2 C oC D2 m₂ h tk E' hj hJ hPv hC hx F9 N9 off ne
                                                                obtain ⟨rfl, ld, rfl, hld⟩ := hJ
                                                                have hv : v = .bytes (lo.getD j bnil).1 (lo.getD j bnil).2 := bv_at hj hPv
                                                                subst hv
                                                                have hW8 : (lo.getD j bnil).1.size = 8 := hT.size (by omega)
                                                                obtain ⟨i7, hi7, hb7⟩ := hT.mem (k := j) (by omega)
                                                                have hi8 : turnN 64 8 Nn i7 < 2 ^ 48 := turn_lt 64 8 Nn i7 (by decide) hq1 (Nat.le_of_lt hi7)
                                                                obtain ⟨hd1, hd2⟩ := dec_ok hb7 hi8
                                                                clear hb7
                                                                k_sweep
                                                                tb_start
                                                                rename Fr _ _ _ _ => eF
                                                                rename News _ _ _ _ => eN
                                                                refine ⟨_, _, _, rfl, eF, eN, off, .inr ⟨_, .tail _ (.head _), rfl, _, rfl⟩, rfl, ld ++ [(_, _)], by simp only [bvs, bv, List.map_append, List.map_cons, List.map_nil]; rfl, ?_⟩
                                                                rw [List.map_append, hld, range_snoc]
                                                                show _ ++ [_] = _ ++ [_]
                                                                rw [← hd2]
                                                              case fin =>
                                                                rintro ys nx ⟨rfl, ld, rfl, hld⟩
                                                                unfold LCg.FinE
                                                                intro Dd h29 tk29 F29 N29 q29
                                                                rw [lst_bvs] at N29
                                                                k_sweep
                                                                dsimp only
                                                                k_dflt (refine' LCg.ListComp_U F29 (by with_unfolding_all rfl) (by decide) (by rfl) (by decide) (by rfl) ?_)
                                                                tb_start
                                                                rename Fr _ _ _ _ => cF
                                                                rename News _ _ _ _ => cN
                                                                k_dflt (refine' LCg.CompSrc.ledger (by rfl) cF cN (by k_mem) ?ksz2 ?_)
                                                                case ksz2 => rw [List.size_toArray, ivs_length, sizeLine_eq]; omega
                                                                intro g2
                                                                have hsz2 : (ivs lv).toArray.size = lv.length := by rw [List.size_toArray, ivs_length]
                                                                rw [hsz2]
                                                                refine comp_ind (n := lv.length) (fun j ys nx => nx = _ ∧ ∃ lz : List BT, ys = bvs lz ∧ lz.map (·.1) = (List.range j).map (fun k => byteArr (octs (lv.getD k (0, 0)).1))) ?step2 ?fin2 lv.length 0 [] _ (by omega) ⟨rfl, [], rfl, rfl⟩
                                                                case step2 =>
                                                                  intro j ys nx v I2 oI2 C oC D2 m₂ h tk E' hj hJ hPv hC hx F9 N9 off ne
                                                                  obtain ⟨rfl, lz, rfl, hlz⟩ := hJ
                                                                  have hv : v = .int (lv.getD j (0, 0)).1 (lv.getD j (0, 0)).2 := iv_at hj hPv
                                                                  subst hv
                                                                  obtain ⟨hv0, hv1⟩ := hlvr _ (getD_mem hj)
                                                                  k_sweep
                                                                  tb_start
                                                                  rename Fr _ _ _ _ => eF
                                                                  rename News _ _ _ _ => eN
                                                                  refine ⟨_, _, _, rfl, eF, eN, off, .inr ⟨_, .tail _ (.head _), rfl, _, rfl⟩, rfl, lz ++ [(_, _)], by simp only [bvs, bv, List.map_append, List.map_cons, List.map_nil]; rfl, ?_⟩
                                                                  rw [List.map_append, hlz, range_snoc]
                                                                  rfl
                                                                case fin2 =>
                                                                  rintro ys nx ⟨rfl, lz, rfl, hlz⟩
                                                                  unfold LCg.FinE
                                                                  intro Dz h31 tk31 F31 N31 q31
                                                                  rw [lst_bvs] at N31
                                                                  have heq : ld.map (·.1) = lz.map (·.1) := by
                                                                    rw [hld, hlz, hlvl, hlol]
                                                                    apply List.map_congr_left
                                                                    intro k hk
                                                                    have hk8 := List.mem_range.mp hk
                                                                    have h9 : (lv.getD k (0, 0)).1 = rd B64.toArray (lo.getD k bnil).1 := by
                                                                      rw [← map_getD, hlv, hlol]
                                                                      exact range_getD _ hk8
                                                                    rw [h9]
                                                                  clear hT hV hlvr hlxr hlv hld hlz hq1 hN0 hN1 hlx hlvl hlol hlxl hsz hsz2 hq2 d2 d3 d4
                                                                  k_sweep
                                                                  dsimp only
                                                                  tb_start
        ))
end Mine
end
set_option maxRecDepth 100000 in
set_option maxHeartbeats 0 in
theorem PySem.Challenge.cw_oy0068_01_holds : PySem.Challenge.rw_oy0068_01.Holds :=
  Mine.main
