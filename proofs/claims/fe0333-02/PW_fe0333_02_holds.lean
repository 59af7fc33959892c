import PyProof.Rows.All
import Wide.All
import OpenK.AllK
import Wide.FinOn
import PySem.Challenge.RW_fe0333_02
open PySem PySem.W PyProof.Rows
set_option Elab.async false
set_option maxRecDepth 100000
namespace Mine
set_option maxHeartbeats 8000000 in
open_top hd for PySem.Challenge.rw_fe0333_02
/-- the walk's own switches, as a text of its own has them -/
theorem pause_head : True ∧ True := by first | (walk1; fail) | (w_top off; exact ⟨trivial, trivial⟩)
section
noncomputable abbrev PR : Program := PySem.Challenge.rw_fe0333_02.row.prog
noncomputable abbrev LO : List Str := looseW hd.view_39 [Str.ofString "AddressAndLengthFormatIdentifier", Str.ofString "MemoryLocation"]

/-- the raise's way: a new ValueError flies over the caller's frame -/
abbrev RaiseTo (base h₀ : Heap) (L : Addr) (m : Str → Option Value) (env : Env) (outer : List Env) (news : List (Addr × Obj)) (s : Shared) (E : Value → Shared → Prop) : Prop :=
  ∀ (g : Heap) (e t : Addr) (vs : List Value) (h' : Heap) (tk' : Nat), Fr h₀ L g m → RaisedS base g (env :: outer) e (.type "ValueError") t vs news h' → g.UpToSlots h' → E (.ref e) { s with heap := h', toks := tk' }

def Bck (h₀ : Heap) (L : Addr) (m : Str → Option Value) (s : Shared) (Q : Value → Shared → Prop) (R : Value → List (Addr × Obj) → Prop) : Prop :=
  ∀ v news' h' tk', Fr h₀ L h' m → News h₀ L h' news' → R v news' → Q v { s with heap := h', toks := tk' }
def Rai (base h₀ : Heap) (L : Addr) (m : Str → Option Value) (env : Env) (outer : List Env) (s : Shared) (E : Value → Shared → Prop) (X : List (Addr × Obj) → Prop) : Prop :=
  ∀ nx, X nx → RaiseTo base h₀ L m env outer nx s E
theorem Bck.use {h₀ : Heap} {L : Addr} {m : Str → Option Value} {s : Shared} {Q : Value → Shared → Prop} {R : Value → List (Addr × Obj) → Prop} (H : Bck h₀ L m s Q R) {v : Value} {news' : List (Addr × Obj)} {h' : Heap} {tk' : Nat} (F : Fr h₀ L h' m) (N : News h₀ L h' news') (r : R v news') : Q v { s with heap := h', toks := tk' } := H v news' h' tk' F N r
theorem raisedS_sub {base G : Heap} {l : List Env} {e t : Addr} {cls : Value} {vs : List Value} {news news' : List (Addr × Obj)} {h : Heap} (R : RaisedS base G l e cls t vs news h) (hs : ∀ p ∈ news', p ∈ news) : RaisedS base G l e cls t vs news' h := by
  obtain ⟨⟨B, hB, hG, hl, hfl, hnew⟩, htup⟩ := R
  exact ⟨⟨B, hB, hG, fun q hq => hl q (hs q hq), hfl, hnew⟩, htup⟩
theorem Rai.use {base h₀ : Heap} {L : Addr} {m : Str → Option Value} {env : Env} {outer : List Env} {s : Shared} {E : Value → Shared → Prop} {X : List (Addr × Obj) → Prop} (H : Rai base h₀ L m env outer s E X) (nx : List (Addr × Obj)) (hx : X nx) {nx' : List (Addr × Obj)}
    {g : Heap} {e t : Addr} {vs : List Value} {h' : Heap} {tk' : Nat} (U : g.UpToSlots h') (F : Fr h₀ L g m) (R : RaisedS base g (env :: outer) e (.type "ValueError") t vs nx' h') (hs : ∀ p ∈ nx, p ∈ nx') : E (.ref e) { s with heap := h', toks := tk' } :=
  H nx hx g e t vs h' tk' F (raisedS_sub R hs) U
theorem Rai.use2 {base h₀ : Heap} {L : Addr} {m : Str → Option Value} {env : Env} {outer : List Env} {s : Shared} {E : Value → Shared → Prop} {news : List (Addr × Obj)} {P : Prop} (H : Rai base h₀ L m env outer s E (fun nx => nx = news ∧ P)) (hp : P) {nx' : List (Addr × Obj)}
    {g : Heap} {e t : Addr} {vs : List Value} {h' : Heap} {tk' : Nat} (U : g.UpToSlots h') (F : Fr h₀ L g m) (R : RaisedS base g (env :: outer) e (.type "ValueError") t vs nx' h') (hs : ∀ p ∈ news, p ∈ nx') : E (.ref e) { s with heap := h', toks := tk' } :=
  Rai.use H news ⟨rfl, hp⟩ U F R hs
theorem and_no1 {a b : Bool} (h : a = false) : (a && b) = false := by rw [h]; rfl
theorem and_no2 {a b : Bool} (h : b = false) : (a && b) = false := by rw [h, Bool.and_false]
/-- what a call of a def does, for any caller -/
abbrev Does (lv : Nat) (w : World) (mean : ExcName → Option Value) (mg mb : Str → Option Value) (f : Addr) (vs : List Value) (kw : List (Str × Value)) (news : List (Addr × Obj)) (R : Value → List (Addr × Obj) → Prop) (X : List (Addr × Obj) → Prop) : Prop :=
  ∀ (dp un : Nat) (cn : Str) (cs : Scope) (a : Addr) (ccd : Value) (cl : List (Str × Addr)) (outer : List Env) (A₀ : Around) (base h₀ : Heap) (L : Addr) (m : Str → Option Value) (s : Shared) (Q E : Value → Shared → Prop),
    Below A₀ base outer h₀ → Fr h₀ L s.heap m → (hd.heap_39 w.params).In h₀ → News h₀ L s.heap news → Top hd.view_39 LO mean mg mb h₀ → cs.kind = .function → dp + lv < recursionLimit → un + 20 * lv < cLine →
    Bck h₀ L m s Q R → Rai base h₀ L m (envX cn cs L a ccd cl) outer s E X →
    wpAny (model PR w) (ktrTop dp un (some []) cn cs L a ccd cl outer) (call (.ref f) vs kw) Q E s

structure Ground9 (w : World) (mean : ExcName → Option Value) (mg mb : Str → Option Value) (base : Heap) : Prop where
  inK : (hd.heap_39 w.params).In base
  top : Top hd.view_39 LO mean mg mb base
/-- the same, for a def that catches -/
abbrev DoesD (lv : Nat) (w : World) (mean : ExcName → Option Value) (mg mb : Str → Option Value) (f : Addr) (vs : List Value) (kw : List (Str × Value)) (news : List (Addr × Obj)) (R : Value → List (Addr × Obj) → Prop) (X : List (Addr × Obj) → Prop) : Prop :=
  ∀ (dp un : Nat) (cn : Str) (cs : Scope) (a : Addr) (ccd : Value) (cl : List (Str × Addr)) (outer : List Env) (A₀ : Around) (base h₀ : Heap) (L : Addr) (m : Str → Option Value) (s : Shared) (Q E : Value → Shared → Prop),
    Below A₀ base outer h₀ → Fr h₀ L s.heap m → (hd.heap_39 w.params).In h₀ → News h₀ L s.heap news → Top hd.view_39 LO mean mg mb h₀ → cs.kind = .function → dp + lv < recursionLimit → un + 20 * lv < cLine →
    Ground9 w mean mg mb base → KtsDicts (outer.filterMap (·.frame)) h₀ →
    Bck h₀ L m s Q R → Rai base h₀ L m (envX cn cs L a ccd cl) outer s E X →
    wpAny (model PR w) (ktrTop dp un (some []) cn cs L a ccd cl outer) (call (.ref f) vs kw) Q E s
theorem dicts_push {h₀ g : Heap} {L : Addr} {m : Str → Option Value} {env : Env} {outer : List Env} (FG : Fr h₀ L g m) (hf : env.frame = some L) (D : KtsDicts (outer.filterMap (·.frame)) h₀) : KtsDicts ((env :: outer).filterMap (·.frame)) g := fun b hb => by
  obtain ⟨e, he, hfe⟩ := List.mem_filterMap.mp hb
  rcases List.mem_cons.mp he with rfl | he
  · rw [hf] at hfe
    rw [← Option.some.inj hfe]
    obtain ⟨oL, es, ep, hLg, hLd, _⟩ := FG.ns
    exact ⟨oL, es, ep, hLg, hLd⟩
  · obtain ⟨o, es, n, ho, hd⟩ := D b (List.mem_filterMap.mpr ⟨e, he, hfe⟩)
    exact ⟨o, es, n, FG.keep _ _ ho, hd⟩

theorem guards_make (A : Around) (a : Args) : (A.under (.builtin "type.__call__" a)).guards = A.guards := by
  have h : (Code.builtin "type.__call__" a).guards = [] := by
    unfold Code.guards
    rw [show (Code.builtin "type.__call__" a).isGuard = false from (show guardIds.contains "type.__call__" = false by decide +kernel)]
    rfl
  unfold Around.under
  simp only [h, pushGuards]
theorem guards_deeper (A : Around) (env : Env) : (A.deeper env).guards = A.guards := rfl
theorem units_make (A : Around) (C : Addr) (vals : List Value) (kw : List (Str × Value)) : (A.under (.builtin "type.__call__" ⟨.ref C :: vals, kw⟩)).units = A.units + 1 := rfl
theorem depth_make (A : Around) (C : Addr) (vals : List Value) (kw : List (Str × Value)) : (A.under (.builtin "type.__call__" ⟨.ref C :: vals, kw⟩)).depth = A.depth + 1 := rfl
theorem fmod_nn (x : Int) {k : Int} (hk : 0 < k) : 0 ≤ x.fmod k := by rw [Int.fmod_eq_emod_of_nonneg _ (Int.le_of_lt hk)]; exact Int.emod_nonneg _ (by omega)
theorem fmod_le6 (x : Int) {k : Int} (hk : 0 < k) (h6 : k ≤ 1000000) : x.fmod k ≤ 1000000 := by rw [Int.fmod_eq_emod_of_nonneg _ (Int.le_of_lt hk)]; have := Int.emod_lt_of_pos x hk; omega
end
/-- the lines that were read for the part above are not those of the next one -/
theorem pause_ZBase1 : True ∧ True := by first | (walk1; fail) | (w_top off; exact ⟨trivial, trivial⟩)
section
open PySem.Builtin PySem.Builtin.Str PySem.Calls
theorem fills_list : fillsNumberSlot (.type "list") "mod" = pure false := by
  have a : typeLookup (.type "list") (PySem.dunder "mod") = pure none := by rw [typeLookup_type, builtinLookup_eq_fast]; kernel_rfl
  have b : typeLookup (.type "list") (PySem.dunderR "mod") = pure none := by rw [typeLookup_type, builtinLookup_eq_fast]; kernel_rfl
  unfold fillsNumberSlot
  simp [a, b]
theorem fills_listmap {M : Model} {A : Around} {E : Value → Shared → Prop} {s : Shared} {a : Addr} {Q : Bool → Shared → Prop} (hT : s.TypeIs (.ref a) "list") (h : Q true s) : wpAny M A (fillsMappingSlot (.ref a)) Q E s := by
  unfold fillsMappingSlot
  refine wpAny_bind (wpAny_specialOf hT PySem.F.slot_list_getitem.lookup ?_)
  exact wpAny_pure h
theorem strOf_bind {prog : Program} {w : World} {A : Around} {E : Value → Shared → Prop} {s : Shared} {a : Addr} {d : PyData} {as : List Addr} {Q : Value → Shared → Prop}
    (r : Reads s.heap (.ref a) d as) (hs : d.showable = true) (hd : d.hasDict = false) (hg : A.guards = some []) (hu : A.units + (d.depth + 1) < cLine) (hsz : d.shown.length ≤ sizeLine)
    (h : ∀ h' u tk, (∀ b o, s.heap.get? b = some o → h'.get? b = some o) → Q (.str d.shown u) { s with heap := h', toks := tk }) :
    wpAny (model prog w) A (strOf (.ref a)) Q E s :=
  strOf_of_reads r hs (fun e => by rw [hd] at e; cases e) hg hu (fun _ _ e => e) h hsz

def eights : PyData := .list [.int 8, .int 16, .int 24, .int 32, .int 40, .int 48, .int 56, .int 64]
theorem eights_shown : eights.shown = Str.ofString "[8, 16, 24, 32, 40, 48, 56, 64]" := by decide +kernel

theorem mod_list1 {prog : Program} {w : World} {A : Around} {E : Value → Shared → Prop} {s : Shared} {t : Tok} {l : Addr} {o : Obj} {vs : List Value} {n : Nat} {as : List Addr} {Q : Value → Shared → Prop}
    (ho : s.heap.get? l = some o) (hc : o.cls = .type "list") (hd : o.data = .seq vs.toArray n) (r : Reads s.heap (.ref l) eights as) (hg : A.guards = some []) (hu : A.units + 20 < cLine)
    (h : ∀ t' h' k, (∀ b o, s.heap.get? b = some o → h'.get? b = some o) → Q (.str (Str.ofString "address_format must be an integer selected from : [8, 16, 24, 32, 40, 48, 56, 64] ") t') { s with heap := h', toks := k }) :
    wpAny (model prog w) A (binaryOp .Mod (.str (Str.ofString "address_format must be an integer selected from : %s ") t) (.ref l)) Q E s := by
  rw [show Str.ofString "address_format must be an integer selected from : %s " = Str.mk #[97, 100, 100, 114, 101, 115, 115, 95, 102, 111, 114, 109, 97, 116, 32, 109, 117, 115, 116, 32, 98, 101, 32, 97, 110, 32, 105, 110, 116, 101, 103, 101, 114, 32, 115, 101, 108, 101, 99, 116, 101, 100, 32, 102, 114, 111, 109, 32, 58, 32, 37, 115, 32] from by decide +kernel]
  refine KPt.bin_left (T := "str") (U := "list") (op := .Mod) (by decide) (typeIs_str s _ t) ⟨_, ho, hc⟩ PySem.F.fills_str_mod fills_list PySem.F.slot_str_mod
    (wpAny_call_entry PySem.F.slot_str_mod (typeIs_str s _ t) PySem.F.entry_str_mod ?_ (PySem.F.args_str_mod_2 _ _))
  rw [KPt.entry_is_r]
  unfold Builtin.Str.percentFormat
  refine wpAny_bind (wpAny_isInstance (T := "list") ⟨_, ho, hc⟩ PySem.F.sub_list_tuple ?_)
  refine wpAny_bind (KPt.asStr_ref ho hd ?_)
  refine wpAny_bind (fills_listmap ⟨_, ho, hc⟩ ?_)
  kpc_if
  refine wpAny_bind (wpAny_pure ?_)
  refine wpAny_bind ?_
  rw [KPc.range_list]
  refine KPc.start ?_
  intro _ _
  refine KPc.turn ?_; kpc_check; (repeat kpc_if)
  refine wpAny_pure ?_; kpt_piece
  refine KPc.turn ?_; kpc_check; (repeat kpc_if)
  refine wpAny_bind ?_; refine wpAny_holding ?_; (repeat kpc_if)
  refine wpAny_bind ?_
  kpc_if
  refine strOf_bind r (by decide +kernel) (by decide +kernel) hg (by show A.units + 1 + _ < _; rw [show eights.depth = 1 from by decide +kernel]; omega) (by rw [eights_shown]; decide +kernel) fun h' u tk hk => ?_
  rw [eights_shown]
  refine wpAny_bind (wpAny_of_eq (a := some _) rfl ?_)
  refine wpAny_pure ?_; refine wpAny_pure ?_; kpt_piece
  refine KPc.turn ?_; kpc_check; (repeat kpc_if)
  refine wpAny_pure ?_; kpt_piece
  refine KPc.turn ?_; kpc_check; (repeat kpc_if)
  refine wpAny_pure ?_; kpc_if; refine KPc.finish_ok (by kpc_g) (by decide +kernel) (by first | kpc_text | exact rfl) ?_
  intro t' k
  exact ⟨_, rfl, (fun e => nomatch e), h t' h' k hk⟩

theorem mod_list2 {prog : Program} {w : World} {A : Around} {E : Value → Shared → Prop} {s : Shared} {t : Tok} {l : Addr} {o : Obj} {vs : List Value} {n : Nat} {as : List Addr} {Q : Value → Shared → Prop}
    (ho : s.heap.get? l = some o) (hc : o.cls = .type "list") (hd : o.data = .seq vs.toArray n) (r : Reads s.heap (.ref l) eights as) (hg : A.guards = some []) (hu : A.units + 20 < cLine)
    (h : ∀ t' h' k, (∀ b o, s.heap.get? b = some o → h'.get? b = some o) → Q (.str (Str.ofString "memorysize_format must be an integer selected from : [8, 16, 24, 32, 40, 48, 56, 64]") t') { s with heap := h', toks := k }) :
    wpAny (model prog w) A (binaryOp .Mod (.str (Str.ofString "memorysize_format must be an integer selected from : %s") t) (.ref l)) Q E s := by
  rw [show Str.ofString "memorysize_format must be an integer selected from : %s" = Str.mk #[109, 101, 109, 111, 114, 121, 115, 105, 122, 101, 95, 102, 111, 114, 109, 97, 116, 32, 109, 117, 115, 116, 32, 98, 101, 32, 97, 110, 32, 105, 110, 116, 101, 103, 101, 114, 32, 115, 101, 108, 101, 99, 116, 101, 100, 32, 102, 114, 111, 109, 32, 58, 32, 37, 115] from by decide +kernel]
  refine KPt.bin_left (T := "str") (U := "list") (op := .Mod) (by decide) (typeIs_str s _ t) ⟨_, ho, hc⟩ PySem.F.fills_str_mod fills_list PySem.F.slot_str_mod
    (wpAny_call_entry PySem.F.slot_str_mod (typeIs_str s _ t) PySem.F.entry_str_mod ?_ (PySem.F.args_str_mod_2 _ _))
  rw [KPt.entry_is_r]
  unfold Builtin.Str.percentFormat
  refine wpAny_bind (wpAny_isInstance (T := "list") ⟨_, ho, hc⟩ PySem.F.sub_list_tuple ?_)
  refine wpAny_bind (KPt.asStr_ref ho hd ?_)
  refine wpAny_bind (fills_listmap ⟨_, ho, hc⟩ ?_)
  kpc_if
  refine wpAny_bind (wpAny_pure ?_)
  refine wpAny_bind ?_
  rw [KPc.range_list]
  refine KPc.start ?_
  intro _ _
  refine KPc.turn ?_; kpc_check; (repeat kpc_if)
  refine wpAny_pure ?_; kpt_piece
  refine KPc.turn ?_; kpc_check; (repeat kpc_if)
  refine wpAny_bind ?_; refine wpAny_holding ?_; (repeat kpc_if)
  refine wpAny_bind ?_
  kpc_if
  refine strOf_bind r (by decide +kernel) (by decide +kernel) hg (by show A.units + 1 + _ < _; rw [show eights.depth = 1 from by decide +kernel]; omega) (by rw [eights_shown]; decide +kernel) fun h' u tk hk => ?_
  rw [eights_shown]
  refine wpAny_bind (wpAny_of_eq (a := some _) rfl ?_)
  refine wpAny_pure ?_; refine wpAny_pure ?_; kpt_piece
  refine KPc.turn ?_; kpc_check; (repeat kpc_if)
  refine wpAny_pure ?_; kpc_if; refine KPc.finish_ok (by kpc_g) (by decide +kernel) (by first | kpc_text | exact rfl) ?_
  intro t' k
  exact ⟨_, rfl, (fun e => nomatch e), h t' h' k hk⟩
end
/-- the lines that were read for the part above are not those of the next one -/
theorem pause_Base2 : True ∧ True := by first | (walk1; fail) | (w_top off; exact ⟨trivial, trivial⟩)
section
open PySem.Calls PySem.Spec PyProof.V
abbrev D8 : List (Int × PyData) := [(8, .int 1), (16, .int 2), (24, .int 3), (32, .int 4), (40, .int 5), (48, .int 6), (56, .int 7), (64, .int 8)]
theorem keyed57 {w : World} {h : Heap} (X : (hd.heap_39 w.params).In h) : KTD.Keyed h 57 D8 := kt_keyed_in X (by kernel_rfl)
theorem keyed58 {w : World} {h : Heap} (X : (hd.heap_39 w.params).In h) : KTD.Keyed h 58 D8 := kt_keyed_in X (by kernel_rfl)
section
variable {prog : Program} {w : World} {A : Around} {E : Value → Shared → Prop} {s : Shared} {h₀ : Heap} {L d v : Addr} {m : Str → Option Value} {news : List (Addr × Obj)}
theorem keys_get {pl : Sem Bool} {Q : Value × List Value → Shared → Prop} (K : KTD.Keyed h₀ d D8) (F : Fr h₀ L s.heap m) (h : Q (.builtin "dict.keys", [.ref d]) s) : wpAny (model prog w) A (getMethod (.ref d) (Str.ofString "keys") pl) Q E s :=
  getMethod_tab_any (knd := intKind prog w) (enc := PyData.int) rfl (K.keep F.keep prog w) h
theorem keys_call {Q : Value → Shared → Prop} (K : KTD.Keyed h₀ d D8) (F : Fr h₀ L s.heap m) (N : News h₀ L s.heap news)
    (h : ∀ (V : Addr) h', Fr h₀ L h' m → News h₀ L h' ((V, { cls := .type "dict_keys", data := .fields #[.ref d] }) :: news) → (∀ q ∈ news, q.1 < V) → Q (.ref V) { s with heap := h' }) :
    wpAny (model prog w) A (call (.builtin "dict.keys") [.ref d]) Q E s := by
  obtain ⟨lo, kvs, hD, _⟩ := K.keep F.keep prog w
  exact call_meetsIn PySem.F.slot_dict_keys hD.typeIs PySem.F.entry_dict_keys (PySem.F.args_dict_keys_1 _) (kdl_meets_keys (intKind prog w) d lo) ⟨⟨kvs, hD⟩, h _ _ (F.push _) (News.push F N _) fun q hq => Heap.lt_size (N q hq).1⟩
theorem flat_int (hp : Heap) {v : Value} {i : Int} (h : Flat v (PyData.int i)) : ∃ t, v = .int i t := by cases h hp; exact ⟨_, rfl⟩
theorem keys_list {Q : Value → Shared → Prop} (K : KTD.Keyed h₀ d D8) (hh : A.handled = none) (F : Fr h₀ L s.heap m) (N : News h₀ L s.heap news) (hv : (v, { cls := .type "dict_keys", data := .fields #[.ref d] }) ∈ news)
    (h : ∀ (B : Addr) c h' tk t1 t2 t3 t4 t5 t6 t7 t8, Fr h₀ L h' m → News h₀ L h' ((B, listOf ([.int 8 t1, .int 16 t2, .int 24 t3, .int 32 t4, .int 40 t5, .int 48 t6, .int 56 t7, .int 64 t8] : List Value).toArray c) :: news) → (∀ q ∈ news, q.1 < B) → Q (.ref B) { s with heap := h', toks := tk }) :
    wpAny (model prog w) A (call (.type "list") [.ref v]) Q E s := by
  refine kdl_list_viewD (knd := intKind prog w) (enc := PyData.int) (fun _ _ e => kdl_flat_int e) hh F N hv (K.keep F.keep prog w) (by decide) fun B c h' tk => ?_
  intro v1 f1 v2 f2 v3 f3 v4 f4 v5 f5 v6 f6 v7 f7 v8 f8
  obtain ⟨t1, rfl⟩ := flat_int h' f1
  obtain ⟨t2, rfl⟩ := flat_int h' f2
  obtain ⟨t3, rfl⟩ := flat_int h' f3
  obtain ⟨t4, rfl⟩ := flat_int h' f4
  obtain ⟨t5, rfl⟩ := flat_int h' f5
  obtain ⟨t6, rfl⟩ := flat_int h' f6
  obtain ⟨t7, rfl⟩ := flat_int h' f7
  obtain ⟨t8, rfl⟩ := flat_int h' f8
  exact h B c h' tk t1 t2 t3 t4 t5 t6 t7 t8
theorem reads_eights {h : Heap} {l : Addr} {c : Nat} {t1 t2 t3 t4 t5 t6 t7 t8 : Tok} (N : News h₀ L h news) (hl : (l, listOf ([.int 8 t1, .int 16 t2, .int 24 t3, .int 32 t4, .int 40 t5, .int 48 t6, .int 56 t7, .int 64 t8] : List Value).toArray c) ∈ news) : ∃ as, Reads h (.ref l) eights as :=
  ⟨_, reads_list_at (N _ hl).1 rfl rfl (.cons (.int _ _) (.cons (.int _ _) (.cons (.int _ _) (.cons (.int _ _) (.cons (.int _ _) (.cons (.int _ _) (.cons (.int _ _) (.cons (.int _ _) .nil))))))))⟩
theorem text1 {Q : Value → Shared → Prop} {l : Addr} {c : Nat} {t t1 t2 t3 t4 t5 t6 t7 t8 : Tok} (F : Fr h₀ L s.heap m) (N : News h₀ L s.heap news) (hl : (l, listOf ([.int 8 t1, .int 16 t2, .int 24 t3, .int 32 t4, .int 40 t5, .int 48 t6, .int 56 t7, .int 64 t8] : List Value).toArray c) ∈ news) (hg : A.guards = some []) (hu : A.units + 20 < cLine)
    (h : ∀ t' h' k, Fr h₀ L h' m → News h₀ L h' news → Q (.str (Str.ofString "address_format must be an integer selected from : [8, 16, 24, 32, 40, 48, 56, 64] ") t') { s with heap := h', toks := k }) :
    wpAny (model prog w) A (binaryOp .Mod (.str (Str.ofString "address_format must be an integer selected from : %s ") t) (.ref l)) Q E s := by
  obtain ⟨as, r⟩ := reads_eights N hl
  exact mod_list1 (N _ hl).1 rfl rfl r hg hu fun t' h' k hk => h t' h' k (F.keeps hk) fun p hp => ⟨hk _ _ (N p hp).1, (N p hp).2⟩
theorem text2 {Q : Value → Shared → Prop} {l : Addr} {c : Nat} {t t1 t2 t3 t4 t5 t6 t7 t8 : Tok} (F : Fr h₀ L s.heap m) (N : News h₀ L s.heap news) (hl : (l, listOf ([.int 8 t1, .int 16 t2, .int 24 t3, .int 32 t4, .int 40 t5, .int 48 t6, .int 56 t7, .int 64 t8] : List Value).toArray c) ∈ news) (hg : A.guards = some []) (hu : A.units + 20 < cLine)
    (h : ∀ t' h' k, Fr h₀ L h' m → News h₀ L h' news → Q (.str (Str.ofString "memorysize_format must be an integer selected from : [8, 16, 24, 32, 40, 48, 56, 64]") t') { s with heap := h', toks := k }) :
    wpAny (model prog w) A (binaryOp .Mod (.str (Str.ofString "memorysize_format must be an integer selected from : %s") t) (.ref l)) Q E s := by
  obtain ⟨as, r⟩ := reads_eights N hl
  exact mod_list2 (N _ hl).1 rfl rfl r hg hu fun t' h' k hk => h t' h' k (F.keeps hk) fun p hp => ⟨hk _ _ (N p hp).1, (N p hp).2⟩
end
end
/-- the lines that were read for the part above are not those of the next one -/
theorem pause_ZBase3 : True ∧ True := by first | (walk1; fail) | (w_top off; exact ⟨trivial, trivial⟩)
section
open PySem.Calls PySem.Builtin.Struct
theorem entry_pack : entryFor table "_struct.pack" = some Builtin.«_struct.pack» := entryFor_of_tree (by kernel_rfl)
theorem kind_pack : builtinKind "_struct.pack" = none := by kernel_rfl
theorem plain_pack : plainId "_struct.pack" = true := by decide +kernel
theorem args_pack (a b : Value) : argsOk "_struct.pack" ⟨[a, b], []⟩ := by unfold argsOk; kernel_rfl
def fmtQ : Format := { bigEndian := true, native := false, codes := [⟨'q', 1, 0, 8⟩], size := 8, items := 1 }
theorem fmt_q (t : Tok) : moduleFormat (.str (Str.ofString ">q") t) = pure fmtQ := by kernel_rfl
def packB (i : Int) : Array UInt8 := intBytes true 8 i
theorem packB_eq (i : Int) : packB i = (fun n : Nat => #[(n / 256 ^ 7 % 256).toUInt8, (n / 256 ^ 6 % 256).toUInt8, (n / 256 ^ 5 % 256).toUInt8, (n / 256 ^ 4 % 256).toUInt8, (n / 256 ^ 3 % 256).toUInt8, (n / 256 ^ 2 % 256).toUInt8, (n / 256 ^ 1 % 256).toUInt8, (n / 256 ^ 0 % 256).toUInt8]) (i % 2 ^ 64).toNat := by
  unfold packB intBytes
  simp only [if_true]
  generalize hn : (i % 2 ^ (8 * 8)).toNat = n
  simp [PySem.Builtin.Memoryview.toLittleEndian, List.range, List.range.loop]
theorem place8 (a b c d e f g h : UInt8) : (#[a, b, c, d, e, f, g, h] : Array UInt8).toList.zipIdx.foldl (fun (out : Array UInt8) (p : UInt8 × Nat) => out.setIfInBounds (0 + 0 * 8 + p.2) p.1) (Array.replicate 8 0) = #[a, b, c, d, e, f, g, h] := by
  have e : (Array.replicate 8 0 : Array UInt8) = #[0, 0, 0, 0, 0, 0, 0, 0] := by rfl
  rw [e]
  simp [List.zipIdx, List.foldl]
theorem place_packB (i : Int) : (packB i).toList.zipIdx.foldl (fun (out : Array UInt8) (p : UInt8 × Nat) => out.setIfInBounds (0 + 0 * 8 + p.2) p.1) (Array.replicate 8 0) = packB i := by
  rw [packB_eq]; exact place8 ..
theorem packB_size (i : Int) : (packB i).size = 8 := by rw [packB_eq]; rfl
theorem turnG {α β : Type} {M : Model} {A : Around} {E : Value → Shared → Prop} {s : Shared} {l : List α} {x : α} {b : β} {f : α → β → Sem (ForInStep β)} {Q : β → Shared → Prop}
    (h : wpAny M A (f x b) (fun r s' => match r with | .done b' => Q b' s' | .yield b' => wpAny M A (forIn l b' f) Q E s') E s) : wpAny M A (forIn (x :: l) b f) Q E s := by
  rw [List.forIn_cons]
  refine wpAny_bind (wpAny_mono h (fun r s' hr => ?_) fun _ _ e => e)
  cases r with
  | done b' => exact wpAny_pure hr
  | yield b' => exact hr
theorem turn0 {α β : Type} {M : Model} {A : Around} {E : Value → Shared → Prop} {s : Shared} {b : β} {f : α → β → Sem (ForInStep β)} {Q : β → Shared → Prop} (h : Q b s) : wpAny M A (forIn ([] : List α) b f) Q E s := by
  rw [List.forIn_nil]; exact wpAny_pure h
theorem call_pack {prog : Program} {w : World} {A : Around} {E : Value → Shared → Prop} {s : Shared} {t u : Tok} {i : Int} {Q : Value → Shared → Prop} (h0 : 0 ≤ i) (h1 : i < 2 ^ 63)
    (h : ∀ k, Q (.bytes (packB i) k) { s with toks := s.toks + 1 }) : wpAny (model prog w) A (call (.builtin "_struct.pack") [.str (Str.ofString ">q") t, .int i u]) Q E s := by
  refine call_function_entry kind_pack plain_pack entry_pack (args_pack _ _) ?_
  unfold Builtin.«_struct.pack»
  refine wpAny_bind (wpAny_of_eq (a := ()) rfl ?_)
  show wpAny _ _ (moduleFormat _ >>= fun f => packed "_struct.pack" "pack" f [.int i u]) _ _ _
  refine wpAny_bind (wpAny_of_eq (fmt_q t) ?_)
  unfold packed
  refine wpAny_ite (KPc.ite_no (fun e => nomatch e) ?_)
  refine wpAny_ite (KPc.ite_no (by decide +kernel) ?_)
  refine wpAny_bind ?_
  unfold packEach
  rw [show fmtQ.codes = [⟨'q', 1, 0, 8⟩] from rfl]
  refine wpAny_bind (turnG ?_)
  kpc_if
  kpc_if
  refine wpAny_bind ?_
  rw [KPc.range_list]
  refine KPc.turn ?_
  refine wpAny_bind ?_
  wp_delta
  refine wpAny_bind (wpAny_of_eq (a := Except.ok i) rfl ?_)
  refine wpAny_bind (wpAny_pure ?_)
  refine wpAny_ite (KPc.ite_no ?c ?_)
  case c =>
    show ¬ ((decide (i < -2 ^ 63) || decide (i > 2 ^ 63 - 1)) = true)
    rw [decide_eq_false (by omega), decide_eq_false (by omega)]
    exact Bool.false_ne_true
  refine wpAny_pure ?_
  refine wpAny_bind (wpAny_pure ?_)
  refine wpAny_pure ?_
  refine turn0 ?_
  refine wpAny_pure ?_
  refine turn0 ?_
  refine wpAny_pure ?_
  show wpAny _ _ (mkBytes ((packB i).toList.zipIdx.foldl (fun (out : Array UInt8) (p : UInt8 × Nat) => out.setIfInBounds (0 + 0 * 8 + p.2) p.1) (Array.replicate 8 0)) >>= fun x => ret x) _ _ _
  rw [place_packB]
  refine wpAny_bind (wpAny_mkBytes ?_ (by rw [packB_size, sizeLine_eq]; decide))
  exact wpAny_pure ⟨_, rfl, h _⟩
end
/-- the lines that were read for the part above are not those of the next one -/
theorem pause_Base4 : True ∧ True := by first | (walk1; fail) | (w_top off; exact ⟨trivial, trivial⟩)
section
open PySem.Calls PySem.Spec

section
variable {prog : Program} {w : World} {A A₀ : Around} {E : Value → Shared → Prop} {s : Shared} {K : Frag} {L : Addr} {base h₀ : Heap} {m mg mb : Str → Option Value} {news : List (Addr × Obj)} {p : Program} {loose : List Str} {mean : ExcName → Option Value}

/-- a def entered, its end left open: for a def that catches -/
theorem enter_raw {env : Env} {outer : List Env} {R : Result → Shared → Prop} {name qual : Str} {params : Arguments} {body : List Stmt} {scope : Scope} {dV kV doc pm cdv ct oc : Value} {an od : Option Addr} {osl : Array (Option Value)} {f : Addr} {args : Args} {binds : List (Str × Value)}
    (B : Below A₀ base outer h₀) (F : Fr h₀ L s.heap m) (X₀ : K.In h₀) (N : News h₀ L s.heap news) (T : Top p loose mean mg mb h₀) (hA : A.frames = some (env :: outer)) (hf : env.frame = some L) (hke : env.scope.kind = .function)
    (ho : K.lookup f = some ⟨oc, od, .func (fnOf name qual params body scope dV kV doc pm an cdv ct), osl⟩) (hcd : codeIn K cdv qual = true) (hroom : A.depth < recursionLimit)
    (hbind : BindsTo s (fnOf name qual params body scope dV kV doc pm an cdv ct) args binds) (hloc : ∀ y ∈ binds, scope.names.lookup y.1 = some .local)
    (h : ∀ g L' h₁, Fr h₀ L g m → Fr g L' h₁ (fun y => binds.reverse.lookup y) → News g L' h₁ news → Below A base (env :: outer) g → K.In g → Top p loose mean mg mb g →
      wpAny (model prog w) (A.deeper (envOf qual scope L' f cdv)) (execs body (envOf qual scope L' f cdv))
        (fun fl s' => R (.ok (.ret (match fl with | .ret v => v | _ => .none))) s')
        (fun e s' => wpAny (model prog w) (A.deeper (envOf qual scope L' f cdv)) (leaving (envOf qual scope L' f cdv) e) (fun _ s'' => R (.error e) s'') (fun e' s'' => R (.error e') s'') s')
        { s with heap := h₁, toks := s.toks + binds.length })
    (hco : scope.isCoroutine = false) (hgen : scope.isGenerator = false) (hk : scope.kind = .function)
    (hcell : ∀ x ∈ scope.names, x.2 ≠ .cell) : codeAny (model prog w) A (.call (.ref f) args) R s := by
  obtain ⟨FG, BG, st, _⟩ := groundX (R := R) B F N hA hf hke
  have X := X₀.keeps F.keep
  refine codeAny_call_def (fd := fnOf name qual params body scope dV kV doc pm an cdv ct) (body := body) (binds := binds) hroom (X _ _ ho) rfl (T.nolimit.keeps F.keep) (codeRec_of X hcd) rfl hbind hcell hloc (fun h₁ hns hk₁ => ?_) hco hgen hk
  exact h _ s.heap.objs.size h₁ FG ⟨hns, fun b o e => hk₁ b o (of_hideAll _ e), Nat.le_of_eq (hideAll_size _ _)⟩
    (fun p hp => ⟨hk₁ _ _ (N p hp).1, Nat.ne_of_lt (Heap.lt_size (N p hp).1), hideAll_none _ (List.mem_map_of_mem hp)⟩) BG (X₀.keeps st) (T.keeps st)

/-- the way out of such a def, its ground turned in the caller's frame alone -/
theorem exit_turn {g g' h : Heap} {L' : Addr} {m' : Str → Option Value} (FG : Fr h₀ L g m) (T : KtsTurn [L] g g') (F : Fr g' L' h m') (N : News g' L' h news) : Fr h₀ L h m ∧ News h₀ L h news := by
  have hL : h₀.get? L = none := kts_self FG
  have keep : ∀ b o, h₀.get? b = some o → h.get? b = some o := fun b o e => F.keep b o (T.other b o (FG.keep b o e) fun q => by
    rw [List.mem_singleton.mp q, hL] at e; cases e)
  obtain ⟨oL, es, ep, hLg, hLd, hLk, hLf⟩ := FG.ns
  obtain ⟨sl, hs⟩ := T.frame L oL hLg (List.mem_singleton.mpr rfl)
  refine ⟨⟨⟨_, es, ep, F.keep _ _ hs, hLd, hLk, hLf⟩, keep, FG.above⟩, fun q hq => ⟨(N q hq).1, fun z => ?_, ?_⟩⟩
  · have := (N q hq).2.2
    rw [z, hs] at this; cases this
  · cases z : h₀.get? q.1 with
    | none => rfl
    | some o =>
      have z' := T.other _ _ (FG.keep _ _ z) fun q' => by
        rw [List.mem_singleton.mp q', hL] at z; cases z
      rw [(N q hq).2.2] at z'; cases z'
theorem dicts_one {g : Heap} (FG : Fr h₀ L g m) : KtsDicts [L] g := fun b hb => by
  rw [List.mem_singleton.mp hb]
  obtain ⟨oL, es, ep, hLg, hLd, _⟩ := FG.ns
  exact ⟨oL, es, ep, hLg, hLd⟩
end

/-- an exception that is held, as the ledger bears it: itself, its traceback, its arguments -/
structure Held (e T t : Addr) (oe oT ot : Obj) (cls : Value) (vs : List Value) : Prop where
  cls : oe.cls = cls
  data : ∃ fs : Array Value, oe.data = .fields fs ∧ fs[0]? = some (.ref t) ∧ fs[1]? = some (.ref T)
  tb : ∃ ts : Array Value, oT.data = .fields ts ∧ ts[3]? = some .none
  args : ot.cls = .type "tuple" ∧ ∃ n, ot.data = .seq vs.toArray n
  eT : T ≠ e

section
variable {prog : Program} {w : World} {A₀ : Around} {E : Value → Shared → Prop} {s' : Shared} {base g G : Heap} {outer : List Env} {L a e t : Addr} {m : Str → Option Value} {name : Str} {scope : Scope} {cd : Value}
  {vs : List Value} {b₀ : Stmt} {suite : List Stmt} {pos : Pos} {rest : List ExceptHandler} {Q : Flow → Shared → Prop} {news : List (Addr × Obj)} {KF : Frag}
  {p : Program} {loose : List Str} {mean : ExcName → Option Value} {mg mb : Str → Option Value} {X : String}

theorem handleBy_bare {A : Around} {env : Env} {s : Shared} {e : Addr}
    (h : wpAny (model prog w) (A.mark (some (.ref e))) (setFlight (.ref e) none) (fun _ s₁ => wpAny (model prog w) (A.mark (some (.ref e))) (execs (b₀ :: suite) env) Q (notedBy (model prog w) (A.mark (some (.ref e))) env (cameBackBy (model prog w) A env E)) s₁) (notedBy (model prog w) (A.mark (some (.ref e))) env (cameBackBy (model prog w) A env E)) s) :
    wpAny (model prog w) A (handleBy (.ref e) env (.ExceptHandler none none (b₀ :: suite) pos :: rest)) Q E s := by
  rw [handleBy]
  refine wpAny_bind (wpAny_pure ?_)
  refine wpAny_ite (KPc.ite_no (by decide) ?_)
  refine wpAny_bind (wpAny_holding (wpAny_runOwn ?_ (by intro q; cases q)))
  exact codeAny_mono (codeAny_handlers_suite (R := fun r s' => match r with | .ok f => Q f s' | .error e => cameBackBy (model prog w) A env E e s') h) fun r s₁ h₁ => by
    cases r with
    | ok f => exact wpAny_pure h₁
    | error x => exact h₁

theorem caught_bare (R : RaisedS base G (envOf name scope L a cd :: outer) e (.type X) t vs news s'.heap) (F : Fr g L G m) (K : Below A₀ base outer g) (hsm : G.UpToSlots s'.heap) (XB : KF.In base) (TB : Top p loose mean mg mb base) (D : KtsDicts (outer.filterMap (·.frame)) g)
    (k : ∀ h' g' T oe oT ot, KtsTurn (outer.filterMap (·.frame)) g g' → Fr g' L h' m → News g' L h' ((e, oe) :: (T, oT) :: (t, ot) :: news) → Held e T t oe oT ot (.type X) vs → (∀ q ∈ news, q.1 ≠ e ∧ q.1 ≠ T ∧ q.1 ≠ t) → Below A₀ base outer g' → KF.In g' → Top p loose mean mg mb g' → g.UpToSlots h' →
      wpAny (model prog w) ((A₀.deeper (envOf name scope L a cd)).mark (some (.ref e))) (execs (b₀ :: suite) (envOf name scope L a cd)) Q (notedBy (model prog w) ((A₀.deeper (envOf name scope L a cd)).mark (some (.ref e))) (envOf name scope L a cd) (cameBackBy (model prog w) (A₀.deeper (envOf name scope L a cd)) (envOf name scope L a cd) E)) { s' with heap := h' }) :
    wpAny (model prog w) (A₀.deeper (envOf name scope L a cd)) (noteFrame (.ref e) (envOf name scope L a cd))
      (fun _ s₂ => wpAny (model prog w) (A₀.deeper (envOf name scope L a cd)) (setFlight (.ref e) none) (fun _ s₃ =>
        wpAny (model prog w) (A₀.deeper (envOf name scope L a cd)) (handleBy (.ref e) (envOf name scope L a cd) (.ExceptHandler none none (b₀ :: suite) pos :: rest)) Q E s₃) E s₂) E s' := by
  obtain ⟨⟨B, hB, hBG, hl, hfl, hnew⟩, htup⟩ := R
  have hL : B.get? L = none := by
    obtain ⟨_, ⟨L', _, hf, hn', _⟩, _⟩ := hfl.2.2.1
    obtain rfl : L = L' := Option.some.inj hf
    exact hn'
  refine wpAny_looks_onW (Around.frames_deeper K.stack) rfl hfl fun h₄ hheld₄ hsm₄ => ?_
  refine wpAny_landsW hheld₄ fun h₅ hheld hsm₅' => ?_
  have hsm₅ := hsm₄.trans hsm₅'
  refine handleBy_bare ?_
  refine lands_againW hheld fun h₆ hfl₆ hsm₆ => ?_
  have hsmA : G.UpToSlots h₆ := (hsm.trans hsm₅).trans hsm₆
  obtain ⟨g₆, T₆, F₆, K₆⟩ := kts_ground K F hBG hfl₆.1 hsmA
  obtain ⟨oe, fs, T, oT, ts, hoe, ⟨hoec, hoe0⟩, hoed, hoe1, hTn, hTe, hoT, hoTd, hts⟩ := hfl₆.2.2.2
  obtain ⟨ot, nt, hot, hotc, hotd⟩ := (htup.of_slots hsm₅).of_slots hsm₆
  have fld : ∀ b (o : Obj) (fz : Array Value), h₆.get? b = some o → o.data = .fields fz → B.get? b = none → g₆.get? b = none := fun b o fz hb hd hBn => T₆.none_ _ (kts_fresh F hBG hBn fun o' ho' hm => by
    obtain ⟨_, o'', ho'', hd''⟩ := K.frames.mem hm
    rw [ho'] at ho''
    cases ho''
    obtain ⟨sl, hs⟩ := hsmA _ _ (F.keep _ _ ho') hd''
    rw [hb] at hs
    cases hs
    exact hd'' _ hd)
  have ne₆ : g₆.get? e = none := fld e oe fs hoe hoed hfl₆.2.1
  have nT₆ : g₆.get? T = none := fld T oT ts hoT hoTd hTn
  have nt₆ : g₆.get? t = none := T₆.none_ _ (kts_fresh F hBG hnew fun o ho hm => by
    obtain ⟨o', es, n', ho', hd⟩ := D _ hm
    rw [ho] at ho'
    cases ho'
    obtain ⟨sl, hs⟩ := hsmA _ _ (F.keep _ _ ho) (fun vs q => by rw [hd] at q; cases q)
    rw [hot] at hs
    cases hs
    have z := hd.symm.trans hotd
    cases z)
  have Nl : News g₆ L h₆ news := fun q hq => ⟨hfl₆.1 _ _ (hl q hq).1, (fun z => by have := (hl q hq).1; rw [z, hL] at this; cases this), T₆.none_ _ (kts_none F.keep (hl q hq).2.1)⟩
  have Lne : ∀ b (o : Obj), h₆.get? b = some o → (∀ es n, o.data ≠ .dict es n) → b ≠ L := fun b o hb hd z => by
    obtain ⟨oL, es, ep, hLg, hLd, _⟩ := F₆.ns
    rw [z, hLg] at hb
    cases hb
    exact hd _ _ hLd
  have N₆ : News g₆ L h₆ ((e, oe) :: (T, oT) :: (t, ot) :: news) := fun q hq => by
    rcases List.mem_cons.mp hq with rfl | hq
    · exact ⟨hoe, Lne _ _ hoe (fun es n q => by rw [hoed] at q; cases q), ne₆⟩
    rcases List.mem_cons.mp hq with rfl | hq
    · exact ⟨hoT, Lne _ _ hoT (fun es n q => by rw [hoTd] at q; cases q), nT₆⟩
    rcases List.mem_cons.mp hq with rfl | hq
    · exact ⟨hot, Lne _ _ hot (fun es n q => by rw [hotd] at q; cases q), nt₆⟩
    · exact Nl q hq
  have off : ∀ q ∈ news, q.1 ≠ e ∧ q.1 ≠ T ∧ q.1 ≠ t := fun q hq => by
    have hb := (hl q hq).1
    refine ⟨fun z => ?_, fun z => ?_, fun z => ?_⟩
    · rw [z, hfl₆.2.1] at hb; cases hb
    · rw [z, hTn] at hb; cases hb
    · rw [z, hnew] at hb; cases hb
  exact k h₆ g₆ T oe oT ot T₆ F₆ N₆ ⟨hoec, ⟨fs, hoed, hoe0, hoe1⟩, ⟨ts, hoTd, hts⟩, ⟨hotc, nt, hotd⟩, hTe⟩ off K₆ (XB.keeps K₆.stays) (TB.keeps K₆.stays) ((Heap.UpToSlots.of_keeps F.keep).trans hsmA)

theorem setFlight_some {base : Heap} {l : List Env} {A : Around} {s : Shared} {e : Addr} {cls a0 fl : Value} {Q : Unit → Shared → Prop}
    (hkb : base.StaysIn s.heap) (hen : base.get? e = none) (hl : s.heap.FunFrames base l) (ht : s.heap.TracedAtW base e cls a0 fl)
    (h : ∀ h', Heap.HeldW base l e cls a0 L h' → (∀ b o, s.heap.get? b = some o → (∀ vs, o.data ≠ .fields vs) → h'.get? b = some o) → Q () { s with heap := h' }) :
    wpAny (model prog w) A (setFlight (.ref e) (some L)) Q E s := by
  obtain ⟨oe, vs, T, oT, ts, he, hcls, hd, h1, hnT, hTe, hT, hdT, h3⟩ := ht
  have hsz3 : 3 < ts.size := (Array.getElem?_eq_some_iff.mp h3).1
  have other : ∀ b, b ≠ T → (s.heap.update T (Obj.mapFields (·.setIfInBounds 3 ((some L : Option Addr).elim Value.none fun f => rawInt f)))).get? b = s.heap.get? b :=
    fun b hb => Heap.get?_update_other _ _ (Ne.symm hb)
  have noRecord : ∀ b o, s.heap.get? b = some o → (∀ vs, o.data ≠ .fields vs) → b ≠ T := fun b o hb hnf q => by
    rw [q, hT] at hb; injection hb with hb; subst hb; exact hnf ts hdT
  unfold setFlight
  refine wpAny_bind (wpAny_field he hd h1 ?_)
  rw [if_pos (show (Value.ref T != Value.none) = true from by simp)]
  refine wpAny_setField hT hdT hsz3 (h _ ⟨fun b o hbo => (other b fun q => by rw [q, hnT] at hbo; cases hbo).trans (hkb b o hbo), hen,
    hl.of_keeps fun b o hb hnf => ⟨o, (other b (noRecord b o hb hnf)).trans hb, rfl⟩, ?_⟩ fun b o hb hnf => (other b (noRecord b o hb hnf)).trans hb)
  exact ⟨oe, vs, T, _, _, (other e (Ne.symm hTe)).trans he, hcls, hd, h1, hnT, hTe, Heap.get?_update_self _ hT (Obj.isFreed_of_fields (Obj.data_mapFields hdT _)), Obj.data_mapFields hdT _, by simp [hsz3, rawInt]⟩

theorem frames_over {B base h : Heap} : ∀ {l : List Env}, h.FunFrames base l → (∀ b ∈ l.filterMap (·.frame), B.get? b = none) → h.FunFrames B l
  | [], _, _ => trivial
  | env :: r, ⟨hk, ⟨L, o, hf, _, ho, hd⟩, hr⟩, hn => ⟨hk, ⟨L, o, hf, hn L (List.mem_filterMap.mpr ⟨env, .head _, hf⟩), ho, hd⟩,
      frames_over hr fun b hb => hn b (by
        obtain ⟨e, he, hf'⟩ := List.mem_filterMap.mp hb
        exact List.mem_filterMap.mpr ⟨e, .tail _ he, hf'⟩)⟩
theorem not_some {h : Heap} {b : Addr} {o : Obj} (e : h.get? b = some o) (n : h.get? b = none) : False := by rw [n] at e; cases e

theorem reraise {s : Shared} {g' : Heap} {T : Addr} {oe oT ot : Obj} {Rr : Value → Shared → Prop} {Ex : Value → Shared → Prop}
    (K : Below A₀ base outer g') (F : Fr g' L s.heap m) (N : News g' L s.heap ((e, oe) :: (T, oT) :: (t, ot) :: news)) (H : Held e T t oe oT ot (.type X) vs) (off : ∀ q ∈ news, q.1 ≠ e ∧ q.1 ≠ T ∧ q.1 ≠ t)
    (T₀ : KtsTurn (outer.filterMap (·.frame)) g g')
    (hE : ∀ h', RaisedS base g outer e (.type X) t vs news h' → g.UpToSlots h' → Rr (.ref e) { s with heap := h' })
    (hk : scope.kind = .function := by rfl) :
    wpAny (model prog w) ((A₀.deeper (envOf name scope L a cd)).mark (some (.ref e))) (exec (.Raise none none pos) (envOf name scope L a cd)) Q
      (notedBy (model prog w) ((A₀.deeper (envOf name scope L a cd)).mark (some (.ref e))) (envOf name scope L a cd) (cameBackBy (model prog w) (A₀.deeper (envOf name scope L a cd)) (envOf name scope L a cd)
        (fun x s' => wpAny (model prog w) (A₀.deeper (envOf name scope L a cd)) (leaving (envOf name scope L a cd) x) (fun _ s'' => Rr x s'') Ex s'))) s := by
  obtain ⟨hcls, ⟨fs, hfs, hf0, hf1⟩, ⟨ts, hts, ht3⟩, ⟨hotc, nt, hotd⟩, hTe⟩ := H
  have Ne := N _ (.head _)
  have NT := N _ (.tail _ (.head _))
  have Nt := N _ (.tail _ (.tail _ (.head _)))
  have Nn : ∀ q ∈ news, s.heap.get? q.1 = some q.2 ∧ q.1 ≠ L ∧ g'.get? q.1 = none := fun q hq => N q (.tail _ (.tail _ (.tail _ hq)))
  have Lnone : g'.get? L = none := kts_self F
  let B := hideAll s.heap (L :: e :: T :: t :: outer.filterMap (·.frame))
  have inB : ∀ b o, s.heap.get? b = some o → b ≠ L → b ≠ e → b ≠ T → b ≠ t → b ∉ outer.filterMap (·.frame) → B.get? b = some o := fun b o hb n1 n2 n3 n4 n5 => hideAll_get _ hb fun hm => by
    rcases List.mem_cons.mp hm with z | hm
    · exact n1 z
    rcases List.mem_cons.mp hm with z | hm
    · exact n2 z
    rcases List.mem_cons.mp hm with z | hm
    · exact n3 z
    rcases List.mem_cons.mp hm with z | hm
    · exact n4 z
    · exact n5 hm
  have gB : ∀ b o, g'.get? b = some o → b ∉ outer.filterMap (·.frame) → B.get? b = some o := fun b o hb nf => inB b o (F.keep b o hb)
    (fun z => by rw [z] at hb; exact not_some hb Lnone) (fun z => by rw [z] at hb; exact not_some hb Ne.2.2) (fun z => by rw [z] at hb; exact not_some hb NT.2.2) (fun z => by rw [z] at hb; exact not_some hb Nt.2.2) nf
  have hB : base.StaysIn B := fun b o hb => gB b o (K.stays b o hb) fun hm => not_some hb (K.frames.mem hm).1
  have hBG : ∀ b o, g.get? b = some o → b ∉ outer.filterMap (·.frame) → B.get? b = some o := fun b o hb nf => gB b o (T₀.other b o hb nf) nf
  have gnone : ∀ b, g'.get? b = none → g.get? b = none := fun b hb => by
    cases q : g.get? b with
    | none => rfl
    | some o =>
      obtain ⟨sl, hs⟩ := T₀.up q
      exact (not_some hs hb).elim
  have hl : ∀ q ∈ news, B.get? q.1 = some q.2 ∧ g.get? q.1 = none ∧ base.get? q.1 = none := fun q hq => by
    obtain ⟨n1, n2, n3⟩ := Nn q hq
    obtain ⟨o1, o2, o3⟩ := off q hq
    refine ⟨inB _ _ n1 n2 o1 o2 o3 fun hm => ?_, gnone _ n3, fresh_of_stays K.stays n3⟩
    obtain ⟨_, o, ho, _⟩ := K.frames.mem hm
    exact not_some ho n3
  have nB : ∀ b, b ∈ L :: e :: T :: t :: outer.filterMap (·.frame) → B.get? b = none := fun b hb => hideAll_none _ hb
  have FF : s.heap.FunFrames B (envOf name scope L a cd :: outer) := frames_over (K.push (name := name) (a := a) (cd := cd) F hk).frames fun b hb => nB b (by
    rcases kts_mem hb with z | z
    · rw [z]; exact .head _
    · exact .tail _ (.tail _ (.tail _ (.tail _ z))))
  have stB : B.StaysIn s.heap := fun b o hb => of_hideAll _ hb
  have eB : B.get? e = none := nB e (.tail _ (.head _))
  have TB : B.get? T = none := nB T (.tail _ (.tail _ (.head _)))
  have tB : B.get? t = none := nB t (.tail _ (.tail _ (.tail _ (.head _))))
  have TR : s.heap.TracedAtW B e (.type X) (.ref t) .none := ⟨oe, fs, T, oT, ts, Ne.1, ⟨hcls, hf0⟩, hfs, hf1, TB, hTe, NT.1, hts, ht3⟩
  have gU : g.UpToSlots s.heap := fun b o hb _ => by
    obtain ⟨sl, hs⟩ := T₀.up hb
    exact ⟨sl, F.keep _ _ hs⟩
  rw [arm_exec_Raise]
  refine wpAny_bind (wpAny_standAt ?_)
  show wpAny _ _ (raiseStmt (envOf name scope L a cd) none none) _ _ _
  unfold raiseStmt
  refine wpAny_bind (wpAny_handled ?_)
  rw [show ((A₀.deeper (envOf name scope L a cd)).mark (some (.ref e))).handled = some (.ref e) from rfl]
  refine wpAny_bind (wpAny_rule ?_)
  refine wpAny_bind (wpAny_field Ne.1 hfs hf1 ?_)
  refine wpAny_ite (KPc.ite_no (by simp) ?_)
  refine wpAny_bind (setFlight_some stB eB FF TR fun h₁ H₁ U₁ => ?_)
  refine wpAny_throw ?_
  show wpAny _ _ (noteFrame _ _) _ _ _
  refine wpAny_noteFrame_againW rfl H₁.2.2.2 ?_
  show wpAny _ _ (do
    if (← field (.ref e) 1) == .none then unsupported "frame.own-activation:exception-without-traceback"
    setFlight (.ref e) (envOf name scope L a cd).frame) _ _ _
  obtain ⟨oe₁, fs₁, T₁, oT₁, ts₁, he₁, hc₁, hd₁, hf₁, r₁⟩ := H₁.2.2.2
  refine wpAny_bind (wpAny_field he₁ hd₁ hf₁ ?_)
  refine wpAny_ite (KPc.ite_no (by simp) ?_)
  refine setFlight_some H₁.1 H₁.2.1 H₁.2.2.1 ⟨oe₁, fs₁, T₁, oT₁, ts₁, he₁, hc₁, hd₁, hf₁, r₁⟩ fun h₂ H₂ U₂ => ?_
  unfold leaving
  refine wpAny_bind (wpAny_noteFrame_againW rfl H₂.2.2.2 ?_)
  refine wpAny_landsW H₂ fun h₃ hfl U₃ => ?_
  obtain ⟨k1, k2, ⟨_, _, k3⟩, k4⟩ := hfl
  have up12 : s.heap.UpToSlots h₁ := fun b o hb hn => ⟨o.slots, U₁ b o hb hn⟩
  have up23 : h₁.UpToSlots h₂ := fun b o hb hn => ⟨o.slots, U₂ b o hb hn⟩
  have U : s.heap.UpToSlots h₃ := (up12.trans up23).trans U₃
  refine hE h₃ ⟨⟨B, hB, hBG, hl, ⟨k1, k2, k3, k4⟩, tB⟩, ?_⟩ (gU.trans U)
  exact Heap.TupAt.of_slots (h := s.heap) ⟨ot, nt, Nt.1, hotc, hotd⟩ U
end
end
/-- the lines that were read for the part above are not those of the next one -/
theorem pause_Base5 : True ∧ True := by first | (walk1; fail) | (w_top off; exact ⟨trivial, trivial⟩)
section
open PySem.Calls PySem.Spec
theorem Fr.asMap {h₀ h : Heap} {L : Addr} {m m' : Str → Option Value} (F : Fr h₀ L h m) (e : ∀ y, m' y = m y) : Fr h₀ L h m' := by
  rw [show m' = m from funext e]; exact F
theorem whlIf_yes {T F : Prop} (h : WhlIf true T F) : T := by
  unfold WhlIf at h
  rw [if_pos rfl] at h
  exact h
/-- a while by an invariant and a measure -/
theorem whl_ind {σ : Type} {prog : Program} {w : World} {A : Around} {E : Value → Shared → Prop} {env : Env} {test : PySem.Expr} {body orelse : List Stmt} {Q : Flow → Shared → Prop} (J : σ → Shared → Prop) (μ : σ → Nat) (hE : PassesOwn (model prog w) A env E)
    (turn : ∀ c s, J c s → wpAny (model prog w) A (isTrue test env (eval test env)) (fun b s₂ => WhlIf b (wpAny (model prog w) A (execs body env) (fun f s' => match f with | .next => ∃ c', J c' s' ∧ μ c' < μ c | .cont => ∃ c', J c' s' ∧ μ c' < μ c | .brk => Q .next s' | .ret v => Q (.ret v) s') E s₂) (wpAny (model prog w) A (execs orelse env) Q E s₂)) E s) :
    ∀ (n : Nat) c s, μ c ≤ n → J c s → WhlRest prog w A E env test body orelse Q 0 s := by
  intro n
  induction n with
  | zero =>
    intro c s hm hj
    refine (whl_turn (k := 0) hE (wpAny_mono (turn c s hj) (fun b s₂ h₂ => ?_) fun _ _ h => h) : WhlRest prog w A E env test body orelse Q 1 s)
    cases b with
    | false => exact h₂
    | true =>
      refine WhlIf.yes rfl (wpAny_mono (whlIf_yes h₂) (fun f s' h' => ?_) fun _ _ h => h)
      cases f with
      | next => obtain ⟨c', _, hlt⟩ := h'; omega
      | cont => obtain ⟨c', _, hlt⟩ := h'; omega
      | brk => exact h'
      | ret v => exact h'
  | succ n ih =>
    intro c s hm hj
    refine (whl_turn (k := 0) hE (wpAny_mono (turn c s hj) (fun b s₂ h₂ => ?_) fun _ _ h => h) : WhlRest prog w A E env test body orelse Q 1 s)
    cases b with
    | false => exact h₂
    | true =>
      refine WhlIf.yes rfl (wpAny_mono (whlIf_yes h₂) (fun f s' h' => ?_) fun _ _ h => h)
      cases f with
      | next => obtain ⟨c', hj', hlt⟩ := h'; exact ih c' s' (by omega) hj'
      | cont => obtain ⟨c', hj', hlt⟩ := h'; exact ih c' s' (by omega) hj'
      | brk => exact h'
      | ret v => exact h'

/-- octets that a number fills -/
def oc (n : Int) : Int := (((Builtin.Int.intBits n : Nat) : Int) + 7).fdiv 8
theorem oc_zero : oc 0 = 0 := by decide +kernel
theorem oc_nn (n : Int) : 0 ≤ oc n := by
  unfold oc
  rw [Int.fdiv_eq_ediv_of_nonneg _ (by decide)]
  omega
theorem bits_shift {n : Nat} (h : 256 ≤ n) : Builtin.Int.intBits ((n / 256 : Nat) : Int) + 8 = Builtin.Int.intBits ((n : Nat) : Int) := by
  have key : ∀ m, Builtin.Int.intBits ((n / 256 : Nat) : Int) ≤ m ↔ Builtin.Int.intBits ((n : Nat) : Int) ≤ m + 8 := fun m => by
    rw [PySem.intBits_le_iff, PySem.intBits_le_iff, Int.natAbs_natCast, Int.natAbs_natCast, Nat.pow_add]
    omega
  have h8 : ¬ Builtin.Int.intBits ((n : Nat) : Int) ≤ 7 := by
    rw [PySem.intBits_le_iff, Int.natAbs_natCast]; omega
  apply Nat.le_antisymm
  · have := (key (Builtin.Int.intBits ((n : Nat) : Int) - 8)).mpr (by omega)
    omega
  · exact (key _).mp (Nat.le_refl _)
theorem oc_step {n : Int} (h : 0 < n) : oc n = oc (n.fdiv 256) + 1 := by
  rw [Int.fdiv_eq_ediv_of_nonneg _ (by decide)]
  obtain ⟨k, rfl⟩ := Int.eq_ofNat_of_zero_le (Int.le_of_lt h)
  have e : ((k : Int) / 256) = ((k / 256 : Nat) : Int) := by omega
  rw [e]
  unfold oc
  rw [Int.fdiv_eq_ediv_of_nonneg _ (by decide), Int.fdiv_eq_ediv_of_nonneg _ (by decide)]
  by_cases hk : 256 ≤ k
  · have := bits_shift hk
    omega
  · have h0 : k / 256 = 0 := by omega
    rw [h0]
    have h1 : Builtin.Int.intBits ((0 : Nat) : Int) = 0 := by decide
    have h2 : Builtin.Int.intBits ((k : Nat) : Int) ≤ 8 := by rw [PySem.intBits_le_iff, Int.natAbs_natCast]; omega
    have h3 : ¬ Builtin.Int.intBits ((k : Nat) : Int) ≤ 0 := by rw [PySem.intBits_le_iff, Int.natAbs_natCast]; omega
    rw [h1]
    omega
end
/-- the lines that were read for the part above are not those of the next one -/
theorem pause_Base6 : True ∧ True := by first | (walk1; fail) | (w_top off; exact ⟨trivial, trivial⟩)
section
open PySem.Calls PySem.Spec
theorem paired_ints {b : Array UInt8} {F : Value → Value → Prop} (hF : ∀ v y, F v y → y = v) : ∀ {vs ys : List Value}, Paired F vs ys → ys = vs
  | _, _, .nil => rfl
  | _, _, .cons h r => by rw [hF _ _ h, paired_ints (b := b) hF r]
theorem ints_of {vs : List Value} {ns : List Int} (hl : vs.length = ns.length) (h : ∀ (j : Nat) (v : Value), vs[j]? = some v → ∃ n t, ns[j]? = some n ∧ v = .int n t) : IntsAre vs ns := by
  induction vs generalizing ns with
  | nil =>
    cases ns with
    | nil => exact .nil
    | cons _ _ => cases hl
  | cons v vs ih =>
    cases ns with
    | nil => cases hl
    | cons n ns =>
      obtain ⟨n', t, e1, e2⟩ := h 0 v rfl
      have e3 : n = n' := Option.some.inj e1
      rw [e2, ← e3]
      exact .cons n t (ih (Nat.succ.inj hl) fun j v hv => h (j + 1) v hv)
theorem comp_bytes {prog : Program} {w : World} {A : Around} {E : Value → Shared → Prop} {s : Shared} {env : Env} {h₀ : Heap} {L : Addr} {m : Str → Option Value} {news : List (Addr × Obj)} {scope : Scope} {x : Str} {px : Pos} {b : Array UInt8} {t : Tok} {Q : Value → Shared → Prop}
    (hh : A.handled = none) (hb : b.size ≤ 8) (F : Fr h₀ L s.heap m) (N : News h₀ L s.heap news) (hkd : scope.kind = .function) (hx : scope.names.lookup x = some .local) (hd : (x == ("__debug__" : Str)) = false)
    (h : ∀ D ws n h' tk, Fr h₀ L h' m → News h₀ L h' ((D, listOf (List.toArray ws) n) :: news) → (∀ p ∈ news, @Ne Nat p.1 D) → IntsAre ws (KBw.bInts b) → Q (.ref D) { s with heap := h', toks := tk }) :
    wpAny (model prog w) A (pyIter (.bytes b t)) (CompPost prog w A env scope x [] (.Name x px) Q) E s := by
  refine KBw.pyIter_bytes ?_
  have up : ∀ (h' : Heap), (∀ b' o', b' ∉ [s.heap.objs.size] → (s.heap.push { cls := .type "bytes_iterator", data := .fields #[.bytes b t, .int 0 0] }).get? b' = some o' → h'.get? b' = some o') → ∀ b' o', s.heap.get? b' = some o' → h'.get? b' = some o' :=
    fun h' hk b' o' e => hk b' o' (not_iter_of_old e) (Heap.get?_push_of_some _ e)
  refine ⟨fun _ => true, fun v y => y = v, s.heap.objs.size, [s.heap.objs.size], [s.heap.objs.size], b.size, _, _, rfl, KBw.walks hh _ b t, Nat.le_trans hb (by rw [sizeLine_eq]; decide), ⟨_, Heap.get?_push_size _ rfl, rfl, rfl⟩, ?_, ⟨?_, ?_⟩, ?_⟩
  · intro b' hb'
    rw [List.mem_singleton.mp hb']
    show _ < (s.heap.push _).objs.size
    rw [Heap.size_push]
    exact Nat.lt_succ_self _
  · intro C i v s₃ m₃ E' hP hn hm _ htk
    exact wpAny_pure ⟨rfl, s₃.heap, s₃.toks, rfl, fun _ _ e => e⟩
  · intro C i v s₃ m₃ E' hP hp hn hm _ htk
    exact wpAny_Name (wpAny_loadName_local hkd hx hn hm ⟨rfl, s₃.heap, s₃.toks, rfl, fun _ _ e => e⟩) hd
  · intro D h' tk ys vs' hnew hlD hplD hlen hP hF hk
    have ek := up h' hk
    have e1 : ys.toList = vs' := by
      have := paired_ints (b := b) (fun v y e => e) hF
      rw [this]; simp
    obtain ⟨n, hD⟩ := hplD
    have nD : s.heap.get? D = none := by
      cases z : s.heap.get? D with
      | none => rfl
      | some o => rw [Heap.get?_push_of_some _ z] at hnew; cases hnew
    refine h D vs' n h' tk (F.keeps ek) ?_ (fun p hp e => ?_) (ints_of (by rw [hlen, KBw.ints_length]) fun j v hv => ?_)
    · intro p hp
      rcases List.mem_cons.mp hp with e | hp
      · rw [e]
        refine ⟨?_, ?_, ?_⟩
        · rw [← e1, Array.toArray_toList]; exact hD
        · intro z
          obtain ⟨o, es, ep, ho, _⟩ := F.ns
          have z' : D = L := z
          rw [z', ho] at nD; cases nD
        · show h₀.get? D = none
          cases z : h₀.get? D with
          | none => rfl
          | some o => rw [F.keep _ _ z] at nD; cases nD
      · exact N.grown ek p hp
    · have := (N p hp).1
      rw [show p.1 = D from e, nD] at this; cases this
    · obtain ⟨c, u, hc, hv'⟩ := hP j v hv
      exact ⟨_, u, KBw.ints_get hc, hv'⟩
end
/-- the lines that were read for the part above are not those of the next one -/
theorem pause_Base8 : True ∧ True := by first | (walk1; fail) | (w_top off; exact ⟨trivial, trivial⟩)
section
open PySem.Builtin PySem.Builtin.Str PySem.Calls
/-- the text that %x makes of a number that is not below nought -/
def hexOf (n : Int) : PySem.Str := ⟨((Nat.toDigits 16 n.natAbs).map Char.toNat).toArray⟩
theorem hex_text (c : Percent) (h1 : c.alt = false) (h2 : c.type = 120) (h3 : c.prec = none) {n : Int} (hn : 0 ≤ n) (d : List Nat) : percentInt c (decide (n < 0)) d = d := by
  have hneg : decide (n < 0) = false := decide_eq_false (by omega)
  unfold percentInt
  simp [h1, h2, h3, hneg]
section
variable {M : Model} {A : Around} {E : Value → Shared → Prop} {s : Shared} {l : List Nat} {p : List Value} {r : List Nat}
  {f : Nat → List Value × Writer × List Nat → Sem (ForInStep (List Value × Writer × List Nat))} {Q : List Value × Writer × List Nat → Shared → Prop}
  {w : Writer} {T x y : PySem.Str} {N K : Nat} {o : Option Value}
theorem after_hex {c : Percent} {n : Int} (g : KPc.Good w T N) (h1 : c.alt = false) (h2 : c.type = 120) (h3 : c.prec = none) (hn : 0 ≤ n) (hl : (hexOf n).length ≤ 20) (ho : o = none)
    (h : ∀ w', KPc.Good w' (T ++ hexOf n) (N + 20) → wpAny M A (forIn l (p, w', r) f) Q E s) :
    wpAny M A (forIn l (p, w.add ⟨(percentInt c (decide (n < 0)) ((Nat.toDigits 16 n.natAbs).map Char.toNat)).toArray⟩ o, r) f) Q E s := by
  rw [hex_text c h1 h2 h3 hn]
  have e : (⟨((Nat.toDigits 16 n.natAbs).map Char.toNat).toArray⟩ : PySem.Str) = hexOf n := rfl
  rw [e]
  have ey : (⟨(hexOf n).cps.toList.toArray⟩ : PySem.Str) = hexOf n := congrArg PySem.Str.mk (Array.toArray_toList ..)
  rw [← ey]
  exact KPc.after_str g hl (KPc.obj_none ho) h
end
abbrev fmtLoc : PySem.Str := Str.ofString "Address=0x%x (%d bits), Size=0x%x (%d bits)"
local macro_rules | `(tactic| kpt_turns) => `(tactic| (refine KPc.turn ?_; kpc_check; (repeat kpc_if); refine wpAny_bind ?_; refine wpAny_holding ?_; (repeat kpc_if); (refine wpAny_bind (wpAny_of_eq (a := _) rfl ?_)); (repeat kpc_if); refine wpAny_bind (wpAny_pure ?_); refine wpAny_pure ?_; refine wpAny_pure ?_; (refine after_hex (by kpc_g) rfl rfl rfl (by kpt_fact) (by with_reducible assumption) (by kpc_none) ?_; intro _ _); kpt_turns))
def locText (x y m n : Int) : PySem.Str := Str.ofString "Address=0x" ++ hexOf x ++ Str.ofString " (" ++ Str.ofString (toString y) ++ Str.ofString " bits), Size=0x" ++ hexOf m ++ Str.ofString " (" ++ Str.ofString (toString n) ++ Str.ofString " bits)"
set_option maxHeartbeats 4000000 in
theorem mod_loc {prog : Program} {w : World} {A : Around} {E : Value → Shared → Prop} {s : Shared} {h₀ : Heap} {L b : Addr} {news : List (Addr × Obj)} {t ta tb tc td : Tok} {x y m n : Int} {k : Nat} {Q : Value → Shared → Prop}
    (N : News h₀ L s.heap news) (hb : (b, ({ cls := .type "tuple", data := .seq #[.int x ta, .int y tb, .int m tc, .int n td] k } : PySem.Obj)) ∈ news)
    (hx : 0 ≤ x) (hy : 0 ≤ y) (hy9 : y < 10 ^ 10) (hm : 0 ≤ m) (hn : 0 ≤ n) (hn9 : n < 10 ^ 10) (hlx : (hexOf x).length ≤ 20) (hlm : (hexOf m).length ≤ 20)
    (h : ∀ t' k, Q (.str (locText x y m n) t') { s with toks := k }) : wpAny (model prog w) A (binaryOp .Mod (.str fmtLoc t) (.ref b)) Q E s := by
  refine' KPt.mod_tuple ?kptN ?kptb ?kptF ?kptm ?_
  case kptN => exact N
  case kptb => exact hb
  case kptF => kpt_eq
  case kptm => kpt_run
  exact h
end
/-- the lines that were read for the part above are not those of the next one -/
theorem pause_Base9 : True ∧ True := by first | (walk1; fail) | (w_top off; exact ⟨trivial, trivial⟩)
section
open PySem.Calls PySem.Builtin.Struct
theorem entry_unpack : entryFor table "_struct.unpack" = some Builtin.«_struct.unpack» := entryFor_of_tree (by kernel_rfl)
theorem kind_unpack : builtinKind "_struct.unpack" = none := by kernel_rfl
theorem plain_unpack : plainId "_struct.unpack" = true := by decide +kernel
theorem args_unpack (a b : Value) : argsOk "_struct.unpack" ⟨[a, b], []⟩ := by unfold argsOk; kernel_rfl
def natB (b : Array UInt8) : Nat := natOf true b
theorem call_unpack {prog : Program} {w : World} {A : Around} {E : Value → Shared → Prop} {s : Shared} {h₀ : Heap} {L : Addr} {m : Str → Option Value} {news : List (Addr × Obj)} {t u : Tok} {b : Array UInt8} {Q : Value → Shared → Prop}
    (F : Fr h₀ L s.heap m) (N : News h₀ L s.heap news) (hb : b.size = 8) (h1 : natB b < 2 ^ 63)
    (h : ∀ D h' k t', Fr h₀ L h' m → News h₀ L h' ((D, ({ cls := .type "tuple", data := .seq #[.int (natB b : Int) t'] } : Obj)) :: news) → (∀ p ∈ news, p.1 < D) → Q (.ref D) { s with heap := h', toks := k }) : wpAny (model prog w) A (call (.builtin "_struct.unpack") [.str (Str.ofString ">q") t, .bytes b u]) Q E s := by
  refine call_function_entry kind_unpack plain_unpack entry_unpack (args_unpack _ _) ?_
  unfold Builtin.«_struct.unpack»
  refine wpAny_bind (wpAny_of_eq (a := ()) rfl ?_)
  refine wpAny_bind (wpAny_of_eq (a := ()) rfl ?_)
  show wpAny _ _ (moduleFormat _ >>= fun f => unpackExact "_struct.unpack" (pure f) (.bytes b u)) _ _ _
  refine wpAny_bind (wpAny_of_eq (fmt_q t) ?_)
  unfold unpackExact
  refine wpAny_bind (wpAny_of_eq KBd.like_eq ?_)
  refine wpAny_bind (wpAny_pure ?_)
  refine wpAny_ite (KPc.ite_no ?c ?_)
  case c => rw [hb]; decide +kernel
  refine wpAny_bind ?_
  unfold unpacked
  rw [show fmtQ.codes = [⟨'q', 1, 0, 8⟩] from rfl]
  refine wpAny_bind (turnG ?_)
  kpc_if
  refine wpAny_bind ?_
  rw [KPc.range_list]
  refine KPc.turn ?_
  have he : b.extract (0 + 0 + 0 * 8) (0 + 0 + (0 + 1) * 8) = b := by
    rw [show (0 + 0 + 0 * 8) = 0 from rfl, show (0 + 0 + (0 + 1) * 8) = b.size by rw [hb]]
    exact Array.extract_size
  have hi : (if ('q'.isLower && decide (natOf true (b.extract (0 + 0 + 0 * 8) (0 + 0 + (0 + 1) * 8)) ≥ 2 ^ (8 * 8 - 1))) = true then ((natOf true (b.extract (0 + 0 + 0 * 8) (0 + 0 + (0 + 1) * 8)) : Nat) : Int) - 2 ^ (8 * 8) else ((natOf true (b.extract (0 + 0 + 0 * 8) (0 + 0 + (0 + 1) * 8)) : Nat) : Int)) = (natB b : Int) := by
    rw [he, if_neg]
    · rfl
    · unfold natB at h1
      rw [decide_eq_false (by omega), Bool.and_false]
      exact Bool.false_ne_true
  refine wpAny_bind (wpAny_mkInt ?_)
  refine wpAny_pure ?_
  refine turn0 ?_
  refine wpAny_pure ?_
  refine turn0 ?_
  show wpAny _ _ (newTuple [Value.int (if ('q'.isLower && decide (natOf true (b.extract (0 + 0 + 0 * 8) (0 + 0 + (0 + 1) * 8)) ≥ 2 ^ (8 * 8 - 1))) = true then ((natOf true (b.extract (0 + 0 + 0 * 8) (0 + 0 + (0 + 1) * 8)) : Nat) : Int) - 2 ^ (8 * 8) else ((natOf true (b.extract (0 + 0 + 0 * 8) (0 + 0 + (0 + 1) * 8)) : Nat) : Int)) s.toks]) _ _ _
  rw [hi]
  refine kup_newTuple (s := { s with toks := s.toks + 1 }) F N (fun D h' F' N' l1 => ?_) (by rw [sizeLine_eq]; simp only [List.length_cons, List.length_nil]; decide)
  exact wpAny_pure ⟨_, rfl, h D h' _ _ F' N' l1⟩
/-- the number of octets, the greatest first -/
theorem natB_ints (b : Array UInt8) : ((natB b : Nat) : Int) = (KBw.bInts b).foldl (fun a d => a * 256 + d) 0 := by
  unfold natB natOf KBw.bInts
  rw [if_pos rfl]
  show ((b.reverse.foldr (fun c n => n * 256 + c.toNat) 0 : Nat) : Int) = _
  rw [Array.foldr_reverse, List.foldl_map, ← Array.foldl_toList]
  have key : ∀ (l : List UInt8) (a : Nat), ((l.foldl (fun n c => n * 256 + c.toNat) a : Nat) : Int) = l.foldl (fun (x : Int) (c : UInt8) => x * 256 + (c.toNat : Int)) (a : Int) := by
    intro l
    induction l with
    | nil => intro a; rfl
    | cons c l ih =>
      intro a
      rw [List.foldl_cons, List.foldl_cons, ih]
      congr 1
  exact key b.toList 0
end
/-- the lines that were read for the part above are not those of the next one -/
theorem pause_Base10 : True ∧ True := by first | (walk1; fail) | (w_top off; exact ⟨trivial, trivial⟩)
section
theorem fill_ZC1 : (PySem.Challenge.rw_fe0333_02, hd.heap_39) = (PySem.Challenge.rw_fe0333_02, hd.heap_39) := by k_fill; rfl
/-- one of the eight formats, as the walk spells it -/
abbrev ok8 (f : Int) : Bool := (decide (f = 8) || (decide (f = 16) || (decide (f = 24) || (decide (f = 32) || (decide (f = 40) || (decide (f = 48) || (decide (f = 56) || (decide (f = 64) || false))))))))
abbrev ent (w : World) (n : String) (k : Tok) (v : Value) : DictEntry := ⟨PyData.keyHash w.params (Str.ofString n), .str (Str.ofString n) k, v⟩
abbrev dAl (w : World) (fm fa : Int) (k1 k2 tm ta : Tok) : Obj := dictOf [ent w "memorysize_format" k1 (.int fm tm), ent w "address_format" k2 (.int fa ta)] 2
theorem no8 {f : Int} (h : 64 < f) : ok8 f = false := by
  have h1 : ¬ f = 8 := by omega
  have h2 : ¬ f = 16 := by omega
  have h3 : ¬ f = 24 := by omega
  have h4 : ¬ f = 32 := by omega
  have h5 : ¬ f = 40 := by omega
  have h6 : ¬ f = 48 := by omega
  have h7 : ¬ f = 56 := by omega
  have h8 : ¬ f = 64 := by omega
  simp [ok8, h1, h2, h3, h4, h5, h6, h7, h8]
local macro_rules | `(tactic| walk_at "binaryOp Pow int int") => `(tactic| (k_here; (with_reducible refine pow_int_small ?kb1 ?kb2 ?kb3 ?_); (case kb1 => first | decide | exact fmod_nn _ (by decide)); (case kb2 => first | decide | exact fmod_le6 _ (by decide) (by decide)); (case kb3 => decide)))
local macro_rules | `(tactic| walk_at "getMethod ref") => `(tactic| (k_here; (with_reducible show wpAny _ _ (getMethod (Value.ref 57) (Str.ofString "keys") _) _ _ _); refine keys_get (keyed57 (by k_asm)) (by k_asm) ?_))
local macro_rules | `(tactic| walk_at "getMethod ref") => `(tactic| (k_here; (with_reducible show wpAny _ _ (getMethod (Value.ref 58) (Str.ofString "keys") _) _ _ _); refine keys_get (keyed58 (by k_asm)) (by k_asm) ?_))
local macro_rules | `(tactic| walk_at "call builtin:dict.keys") => `(tactic| (k_here; (with_reducible show wpAny _ _ (call (Value.builtin "dict.keys") [Value.ref _]) _ _ _); (first | (refine keys_call (keyed57 (by k_asm)) (by k_asm) (by k_asm) ?_) | (refine keys_call (keyed58 (by k_asm)) (by k_asm) (by k_asm) ?_)); intro V' h' F' N' l1; (try k_lt l1)))
local macro_rules | `(tactic| walk_at "call type:list") => `(tactic| (k_here; (with_reducible show wpAny _ _ (call (Value.type _) [Value.ref _]) _ _ _); (first | (refine keys_list (keyed57 (by k_asm)) rfl (by k_asm) (by k_asm) (by k_mem) ?_) | (refine keys_list (keyed58 (by k_asm)) rfl (by k_asm) (by k_asm) (by k_mem) ?_)); intro B' c' h' tk' t1 t2 t3 t4 t5 t6 t7 t8 F' N' l1; (try k_lt l1)))
local macro_rules | `(tactic| walk_at "binaryOp Mod str ref") => `(tactic| (k_here; (with_reducible show wpAny _ _ (binaryOp Operator.Mod (Value.str (Str.ofString "address_format must be an integer selected from : %s ") _) (Value.ref _)) _ _ _); refine' text1 ?a1 ?a2 ?a3 ?g ?u ?_; (case a1 => k_asm); (case a2 => k_asm); (case a3 => k_mem); (case g => (first | (simp only [guards_deeper, guards_make]; done) | ((try simp only [guards_deeper, guards_make]); rfl))); (case u => (have hc9 := cLine_is; (try simp only [units_make, units_deeper, units_in1]); (try dsimp only [ktrTop]); omega)); intro t' h' tk' F' N'))
local macro_rules | `(tactic| walk_at "binaryOp Mod str ref") => `(tactic| (k_here; (with_reducible show wpAny _ _ (binaryOp Operator.Mod (Value.str (Str.ofString "memorysize_format must be an integer selected from : %s") _) (Value.ref _)) _ _ _); refine' text2 ?a1 ?a2 ?a3 ?g ?u ?_; (case a1 => k_asm); (case a2 => k_asm); (case a3 => k_mem); (case g => (first | (simp only [guards_deeper, guards_make]; done) | ((try simp only [guards_deeper, guards_make]); rfl))); (case u => (have hc9 := cLine_is; (try simp only [units_make, units_deeper, units_in1]); (try dsimp only [ktrTop]); omega)); intro t' h' tk' F' N'))
local macro_rules | `(tactic| walk_at "my enter") => `(tactic| k_dflt (refine' code_def ?k1 ?k2 ?k3 ?k4 ?k5 ?kA ?kF ?kK ?k6 ?k7 ?k8 ?k9 ?kB ?_ ?c2 ?c3 ?c4 ?c5; (case kA => exact rfl); (case kF => exact rfl); (case kK => first | assumption | exact rfl); (case k1 => k_asm); (case k2 => k_asm); (case k3 => k_asm); (case k4 => k_asm); (case k5 => k_asm); (case k6 => k_is); (case k7 => k_is); (case k8 => ((try simp only [depth_make, depth_deeper, depth_in1]); (try dsimp only [ktrTop]); omega)); (case k9 => first | exact BindsTo.of_eq rfl | exact binds_K (by k_in) rfl (by k_is) rfl rfl rfl); (case c5 => decide); (case kB => exact locs rfl); (case c2 => exact rfl); (case c3 => exact rfl); (case c4 => exact rfl); k_whole; intro g' L' h' FG' F' N' B' X' T'; (try dsimp only); (try k_fold)))
local macro_rules | `(tactic| walk_at "my make") => `(tactic| (k_dflt (refine' call_cls ?k1 ?k2 ?k3 ?k4 ?k5 ?k6 ?_; (case k1 => k_asm); (case k2 => k_asm); (case k3 => k_asm); (case k4 => k_is); (case k5 => k_is); (case k6 => k_is); k_whole; intro x' d' h' F' N' l1 l2; (try k_lt l1); (try k_lt2 l2); (try k_sweep)); walk_at "my enter"))
local macro_rules | `(tactic| walk_at "my room") => `(tactic| ((try simp only [depth_make, depth_deeper, depth_in1, units_make, units_deeper, units_in1]); (try dsimp only [ktrTop]); omega))
local macro_rules | `(tactic| walk_at "leaving ref") => `(tactic| (k_here; first | (refine' leave_raiseS ?k1 ?k0 ?k2 ?k3 ?_; (case k0 => first | assumption | exact Heap.MadeExc.of (by assumption)); (case k2 => assumption); (case k1 => assumption); (case k3 => k_asm); k_whole; intro h' t' S' R' U'; (try dsimp only at S' R' U' ⊢)) | (refine' leave_onS ?k1 ?k2 ?k3 ?k4 ?_; (case k3 => assumption); (case k2 => assumption); (case k1 => assumption); (case k4 => assumption); k_whole; intro h' S' R' U'; (try dsimp only at S' R' U' ⊢))))
local macro_rules | `(tactic| walk_at "my sub") => `(tactic| ((repeat' (refine List.forall_mem_cons.mpr ⟨by k_mem, ?_⟩)); (intro p hp; repeat (first | exact hp | apply List.Mem.tail))))
local macro_rules | `(tactic| walk_at "my no") => `(tactic| first | assumption | exact and_no1 (by assumption) | exact and_no2 (by assumption) | exact and_no1 (no8 (by assumption)) | exact and_no2 (no8 (by assumption)))
local macro_rules | `(tactic| walk_at "my raise") => `(tactic| ((try dsimp only [InitBack]); refine' Rai.use2 ?H ?C ?U ?F ?R ?S; (case H => assumption); (case C => walk_at "my no"); (case U => assumption); (case F => assumption); (case R => assumption); (case S => walk_at "my sub")))
def auto (v : Int) : Int := (((Builtin.Int.intBits v : Nat) : Int) + 7).fdiv 8 * 8
set_option maxHeartbeats 8000000 in
theorem c_auto1 (w : World) (mean : ExcName → Option Value) (mg mb : Str → Option Value) (news : List (Addr × Obj)) (x : Addr) (v : Int) (t : Tok) :
    Does 5 w mean mg mb 116 [.ref x, .int v t] [] news (fun r news' => news' = news ∧ ¬ 64 < auto v ∧ ∃ t', r = .int (auto v) t') (fun nx => nx = news ∧ 64 < auto v) := by
  intro dp un cn cs a ccd cl outer A₀ base h₀ L m s Q E B F K N T hk hdp hun hret hraise
  refine wpAny_call ?_
  walk_at "my enter"
  k_steps
  · walk_at "my raise"
  · exact hret.use (by assumption) (by assumption) ⟨rfl, by assumption, _, rfl⟩
set_option maxHeartbeats 8000000 in
theorem c_auto2 (w : World) (mean : ExcName → Option Value) (mg mb : Str → Option Value) (news : List (Addr × Obj)) (x : Addr) (v : Int) (t : Tok) :
    Does 5 w mean mg mb 123 [.ref x, .int v t] [] news (fun r news' => news' = news ∧ ¬ 64 < auto v ∧ ∃ t', r = .int (auto v) t') (fun nx => nx = news ∧ 64 < auto v) := by
  intro dp un cn cs a ccd cl outer A₀ base h₀ L m s Q E B F K N T hk hdp hun hret hraise
  refine wpAny_call ?_
  walk_at "my enter"
  k_steps
  · walk_at "my raise"
  · exact hret.use (by assumption) (by assumption) ⟨rfl, by assumption, _, rfl⟩
set_option maxHeartbeats 8000000 in
theorem c_alfid (w : World) (mean : ExcName → Option Value) (mg mb : Str → Option Value) (news : List (Addr × Obj)) (fa fm : Int) (ta tm : Tok) :
    Does 10 w mean mg mb 82 [] [(Str.ofString "memorysize_format", .int fm tm), (Str.ofString "address_format", .int fa ta)] news
      (fun r news' => ∃ x d k1 k2, r = .ref x ∧ news' = (x, instObj 82 d) :: (d, dAl w fm fa k1 k2 tm ta) :: news ∧ d < x ∧ (∀ p ∈ news, p.1 < d) ∧ ok8 fa = true ∧ ok8 fm = true)
      (fun nx => nx = news ∧ (ok8 fa && ok8 fm) = false) := by
  intro dp un cn cs a ccd cl outer A₀ base h₀ L m s Q E B F K N T hk hdp hun hret hraise
  walk_at "my make"
  k_steps
  · exact hret.use (by assumption) (by assumption) ⟨_, _, _, _, rfl, rfl, by assumption, by assumption, by assumption, by assumption⟩
  · walk_at "my raise"
  · walk_at "my raise"
end
/-- the lines that were read for the part above are not those of the next one -/
theorem pause_ZC1 : True ∧ True := by first | (walk1; fail) | (w_top off; exact ⟨trivial, trivial⟩)
section
theorem fill_ZD2 : (PySem.Challenge.rw_fe0333_02, hd.heap_39) = (PySem.Challenge.rw_fe0333_02, hd.heap_39) := by k_fill; rfl
def fmtOf (c : Option Int) (v : Int) : Int := match c with | some f => f | none => auto v
def belowN (a b : Nat) : Prop := a < b
abbrev cellV (c : Option Int) (t : Tok) : Value := match c with | some f => .int f t | none => .none
abbrev dML (w : World) (a m : Int) (fa fm : Value) (y : Addr) (k1 k2 k3 k4 k5 ta tm : Tok) : Obj :=
  dictOf [ent w "address" k1 (.int a ta), ent w "memorysize" k2 (.int m tm), ent w "address_format" k3 fa, ent w "memorysize_format" k4 fm, ent w "alfid" k5 (.ref y)] 5
theorem ok8_cases {f : Int} (h : ok8 f = true) : f = 8 ∨ f = 16 ∨ f = 24 ∨ f = 32 ∨ f = 40 ∨ f = 48 ∨ f = 56 ∨ f = 64 := by
  simpa [ok8] using h
theorem ok8_bnd {f : Int} (h : ok8 f = true) : 8 ≤ f ∧ f ≤ 64 := by
  rcases ok8_cases h with h | h | h | h | h | h | h | h <;> omega
theorem ok8_look {f : Int} (h : ok8 f = true) : PySem.Spec.lookup (PyData.int f) (D8.map fun p => (PyData.int p.1, p.2)) = some (PyData.int (f / 8)) := by
  rw [KTD.lookup_keyed]
  rcases ok8_cases h with h | h | h | h | h | h | h | h <;> subst h <;> rfl
theorem ok8_byte {fa fm : Int} (ha : ok8 fa = true) (hm : ok8 fm = true) : Builtin.bitAnd (Builtin.bitOr (fm / 8 * 2 ^ Int.toNat 4) (fa / 8)) 255 = 16 * (fm / 8) + fa / 8 := by
  rcases ok8_cases ha with h | h | h | h | h | h | h | h <;> rcases ok8_cases hm with h' | h' | h' | h' | h' | h' | h' | h' <;> subst h <;> subst h' <;> decide +kernel
theorem map_item {prog : Program} {w : World} {A : Around} {E : Value → Shared → Prop} {s : Shared} {h₀ : Heap} {L d : Addr} {m : Str → Option Value} {value slice : PySem.Expr} {f : Int} {u : Tok} {Q : Value → Shared → Prop}
    (K : KTD.Keyed h₀ d D8) (F : Fr h₀ L s.heap m) (hf : ok8 f = true) (h : ∀ t', Q (.int (f / 8) t') { s with toks := s.toks + 1 })
    (hs : subscripted slice false (.ref d) (.int f u) = operate [.ref d, .int f u] (getItem (.ref d) (.int f u)) := by with_unfolding_all rfl) (hg : ∀ r, letTemporaryGo value (.ref d) r = pure () := by intro _; with_unfolding_all rfl) :
    wpAny (model prog w) A (subscriptTail value slice (.ref d) (.int f u)) Q E s := by
  refine item_intTab (K.keep F.keep prog w) (ok8_look hf) (fun v hv => ?_) hs hg
  obtain ⟨t', rfl⟩ := flat_int s.heap hv
  exact h t'
/-- the octets of a number, the least last, as the law's own loop makes them -/
def digs : Nat → Int → List Int
  | 0, _ => []
  | k + 1, n => digs k (n / 256) ++ [n % 256]
theorem u8_toNat (x : Nat) : ((x % 256).toUInt8).toNat = x % 256 := by
  show (x % 256) % 256 = x % 256
  omega
theorem ints_packB {v : Int} (h0 : 0 ≤ v) (h1 : v < 2 ^ 63) : KBw.bInts (packB v) = digs 8 v := by
  rw [packB_eq]
  have hv : ((v % 2 ^ 64).toNat : Int) = v := by omega
  generalize (v % 2 ^ 64).toNat = n at hv
  subst hv
  simp only [KBw.bInts, digs, List.map_cons, List.map_nil, List.nil_append, List.cons_append, u8_toNat]
  simp only [List.cons.injEq, and_true]
  refine ⟨?_, ?_, ?_, ?_, ?_, ?_, ?_, ?_⟩ <;> omega
theorem cut_digs {v f : Int} (h0 : 0 ≤ v) (h1 : v < 2 ^ 63) (hf : ok8 f = true) : KBw.bInts (KBy.picked (packB v) (some (-(f / 8))) none) = digs (f / 8).toNat v := by
  rw [KBc.ints_picked (ints_packB h0 h1)]
  have hl : (digs 8 v).length = 8 := by simp [digs]
  rw [hl]
  rcases ok8_cases hf with h | h | h | h | h | h | h | h <;> subst h <;> simp [digs, clipAt] <;> rfl
end
/-- the lines that were read for the part above are not those of the next one -/
theorem pause_ZD2 : True ∧ True := by first | (walk1; fail) | (w_top off; exact ⟨trivial, trivial⟩)
section
theorem fill_ZC2 : (PySem.Challenge.rw_fe0333_02, hd.heap_39) = (PySem.Challenge.rw_fe0333_02, hd.heap_39) := by k_fill; rfl
local macro_rules | `(tactic| walk_at "binaryOp Pow int int") => `(tactic| (k_here; (with_reducible refine pow_int_small ?kb1 ?kb2 ?kb3 ?_); (case kb1 => first | decide | exact fmod_nn _ (by decide)); (case kb2 => first | decide | exact fmod_le6 _ (by decide) (by decide)); (case kb3 => decide)))
local macro_rules | `(tactic| walk_at "getMethod ref") => `(tactic| (k_here; (with_reducible show wpAny _ _ (getMethod (Value.ref 57) (Str.ofString "keys") _) _ _ _); refine keys_get (keyed57 (by k_asm)) (by k_asm) ?_))
local macro_rules | `(tactic| walk_at "getMethod ref") => `(tactic| (k_here; (with_reducible show wpAny _ _ (getMethod (Value.ref 58) (Str.ofString "keys") _) _ _ _); refine keys_get (keyed58 (by k_asm)) (by k_asm) ?_))
local macro_rules | `(tactic| walk_at "call builtin:dict.keys") => `(tactic| (k_here; (with_reducible show wpAny _ _ (call (Value.builtin "dict.keys") [Value.ref _]) _ _ _); (first | (refine keys_call (keyed57 (by k_asm)) (by k_asm) (by k_asm) ?_) | (refine keys_call (keyed58 (by k_asm)) (by k_asm) (by k_asm) ?_)); intro V' h' F' N' l1; (try k_lt l1)))
local macro_rules | `(tactic| walk_at "call type:list") => `(tactic| (k_here; (with_reducible show wpAny _ _ (call (Value.type _) [Value.ref _]) _ _ _); (first | (refine keys_list (keyed57 (by k_asm)) rfl (by k_asm) (by k_asm) (by k_mem) ?_) | (refine keys_list (keyed58 (by k_asm)) rfl (by k_asm) (by k_asm) (by k_mem) ?_)); intro B' c' h' tk' t1 t2 t3 t4 t5 t6 t7 t8 F' N' l1; (try k_lt l1)))
local macro_rules | `(tactic| walk_at "binaryOp Mod str ref") => `(tactic| (k_here; (with_reducible show wpAny _ _ (binaryOp Operator.Mod (Value.str (Str.ofString "address_format must be an integer selected from : %s ") _) (Value.ref _)) _ _ _); refine' text1 ?a1 ?a2 ?a3 ?g ?u ?_; (case a1 => k_asm); (case a2 => k_asm); (case a3 => k_mem); (case g => (first | (simp only [guards_deeper, guards_make]; done) | ((try simp only [guards_deeper, guards_make]); rfl))); (case u => (have hc9 := cLine_is; (try simp only [units_make, units_deeper, units_in1]); (try dsimp only [ktrTop]); omega)); intro t' h' tk' F' N'))
local macro_rules | `(tactic| walk_at "binaryOp Mod str ref") => `(tactic| (k_here; (with_reducible show wpAny _ _ (binaryOp Operator.Mod (Value.str (Str.ofString "memorysize_format must be an integer selected from : %s") _) (Value.ref _)) _ _ _); refine' text2 ?a1 ?a2 ?a3 ?g ?u ?_; (case a1 => k_asm); (case a2 => k_asm); (case a3 => k_mem); (case g => (first | (simp only [guards_deeper, guards_make]; done) | ((try simp only [guards_deeper, guards_make]); rfl))); (case u => (have hc9 := cLine_is; (try simp only [units_make, units_deeper, units_in1]); (try dsimp only [ktrTop]); omega)); intro t' h' tk' F' N'))
local macro_rules | `(tactic| walk_at "my enter") => `(tactic| k_dflt (refine' code_def ?k1 ?k2 ?k3 ?k4 ?k5 ?kA ?kF ?kK ?k6 ?k7 ?k8 ?k9 ?kB ?_ ?c2 ?c3 ?c4 ?c5; (case kA => exact rfl); (case kF => exact rfl); (case kK => first | assumption | exact rfl); (case k1 => k_asm); (case k2 => k_asm); (case k3 => k_asm); (case k4 => k_asm); (case k5 => k_asm); (case k6 => k_is); (case k7 => k_is); (case k8 => ((try simp only [depth_make, depth_deeper, depth_in1]); (try dsimp only [ktrTop]); omega)); (case k9 => first | exact BindsTo.of_eq rfl | exact binds_K (by k_in) rfl (by k_is) rfl rfl rfl); (case c5 => decide); (case kB => exact locs rfl); (case c2 => exact rfl); (case c3 => exact rfl); (case c4 => exact rfl); k_whole; intro g' L' h' FG' F' N' B' X' T'; (try dsimp only); (try k_fold)))
local macro_rules | `(tactic| walk_at "my make") => `(tactic| (k_dflt (refine' call_cls ?k1 ?k2 ?k3 ?k4 ?k5 ?k6 ?_; (case k1 => k_asm); (case k2 => k_asm); (case k3 => k_asm); (case k4 => k_is); (case k5 => k_is); (case k6 => k_is); k_whole; intro x' d' h' F' N' l1 l2; (try k_lt l1); (try k_lt2 l2); (try k_sweep)); walk_at "my enter"))
local macro_rules | `(tactic| walk_at "my room") => `(tactic| ((try simp only [depth_make, depth_deeper, depth_in1, units_make, units_deeper, units_in1]); (try dsimp only [ktrTop]); omega))
local macro_rules | `(tactic| walk_at "leaving ref") => `(tactic| (k_here; first | (refine' leave_raiseS ?k1 ?k0 ?k2 ?k3 ?_; (case k0 => first | assumption | exact Heap.MadeExc.of (by assumption)); (case k2 => assumption); (case k1 => assumption); (case k3 => k_asm); k_whole; intro h' t' S' R' U'; (try dsimp only at S' R' U' ⊢)) | (refine' leave_onS ?k1 ?k2 ?k3 ?k4 ?_; (case k3 => assumption); (case k2 => assumption); (case k1 => assumption); (case k4 => assumption); k_whole; intro h' S' R' U'; (try dsimp only at S' R' U' ⊢))))
local macro_rules | `(tactic| walk_at "call ref") => `(tactic| (k_here; (with_reducible show wpAny _ _ (call (Value.ref 116) [Value.ref _, Value.int _ _] _) _ _ _); k_dflt (refine' c_auto1 _ _ _ _ _ _ _ _ _ _ _ _ _ _ _ _ _ _ _ _ _ _ _ _ ?k1 ?k2 ?k3 ?k4 ?k5 ?kK ?kd ?ku ?_ ?_; (case k1 => k_asm); (case k2 => k_asm); (case k3 => k_asm); (case k4 => k_asm); (case k5 => k_asm); (case kK => first | exact rfl | assumption); (case kd => walk_at "my room"); (case ku => walk_at "my room"); (focus (unfold Bck; intro v9 n9 h' tk' F' N' r9; obtain ⟨e9, hle, t9, e8⟩ := r9; subst e9; subst e8; (try dsimp only); (try k_fold))); rotate_left; (focus (unfold Rai; intro n9 r9; obtain ⟨e9, hle⟩ := r9; subst e9; intro g' e' t' vs' h' tk' FG' R' U'; (try dsimp only); (try k_fold))); rotate_left)))
local macro_rules | `(tactic| walk_at "call ref") => `(tactic| (k_here; (with_reducible show wpAny _ _ (call (Value.ref 123) [Value.ref _, Value.int _ _] _) _ _ _); k_dflt (refine' c_auto2 _ _ _ _ _ _ _ _ _ _ _ _ _ _ _ _ _ _ _ _ _ _ _ _ ?k1 ?k2 ?k3 ?k4 ?k5 ?kK ?kd ?ku ?_ ?_; (case k1 => k_asm); (case k2 => k_asm); (case k3 => k_asm); (case k4 => k_asm); (case k5 => k_asm); (case kK => first | exact rfl | assumption); (case kd => walk_at "my room"); (case ku => walk_at "my room"); (focus (unfold Bck; intro v9 n9 h' tk' F' N' r9; obtain ⟨e9, hle, t9, e8⟩ := r9; subst e9; subst e8; (try dsimp only); (try k_fold))); rotate_left; (focus (unfold Rai; intro n9 r9; obtain ⟨e9, hle⟩ := r9; subst e9; intro g' e' t' vs' h' tk' FG' R' U'; (try dsimp only); (try k_fold))); rotate_left)))
local macro_rules | `(tactic| walk_at "call ref") => `(tactic| (k_here; (with_reducible show wpAny _ _ (call (Value.ref 82) [] _) _ _ _); k_dflt (refine' c_alfid _ _ _ _ _ _ _ _ _ _ _ _ _ _ _ _ _ _ _ _ _ _ _ _ _ ?k1 ?k2 ?k3 ?k4 ?k5 ?kK ?kd ?ku ?_ ?_; (case k1 => k_asm); (case k2 => k_asm); (case k3 => k_asm); (case k4 => k_asm); (case k5 => k_asm); (case kK => first | exact rfl | assumption); (case kd => walk_at "my room"); (case ku => walk_at "my room"); (focus (unfold Bck; intro v9 n9 h' tk' F' N' r9; obtain ⟨x9, d9, ka9, kb9, e9, e8, l2, l1, hfa, hfm⟩ := r9; subst e9; subst e8; (try k_lt l1); (try k_lt2 l2); (try dsimp only); (try k_fold))); rotate_left; (focus (unfold Rai; intro n9 r9; obtain ⟨e9, hno⟩ := r9; subst e9; intro g' e' t' vs' h' tk' FG' R' U'; (try dsimp only); (try k_fold))); rotate_left)))
local macro_rules | `(tactic| walk_at "my sub") => `(tactic| ((repeat' (refine List.forall_mem_cons.mpr ⟨by k_mem, ?_⟩)); (intro p hp; repeat (first | exact hp | apply List.Mem.tail))))
local macro_rules | `(tactic| walk_at "my no") => `(tactic| first | assumption | exact and_no1 (by assumption) | exact and_no2 (by assumption) | exact and_no1 (no8 (by assumption)) | exact and_no2 (no8 (by assumption)))
local macro_rules | `(tactic| walk_at "my raise") => `(tactic| ((try dsimp only [InitBack]); refine' Rai.use2 ?H ?C ?U ?F ?R ?S; (case H => assumption); (case C => walk_at "my no"); (case U => assumption); (case F => assumption); (case R => assumption); (case S => walk_at "my sub")))
set_option maxHeartbeats 8000000 in
theorem c_ml (w : World) (mean : ExcName → Option Value) (mg mb : Str → Option Value) (news : List (Addr × Obj)) (v1 v2 : Int) (c0 c1 : Option Int) (ta tm t0 t1 : Tok) :
    Does 20 w mean mg mb 157 [.int v1 ta, .int v2 tm, cellV c0 t0, cellV c1 t1] [] news
      (fun r news' => ∃ x dx y dy k1 k2 k3 k4 k5 ka kb ta' tm', r = .ref x ∧
        news' = (y, instObj 82 dy) :: (dy, dAl w (fmtOf c1 v2) (fmtOf c0 v1) ka kb tm' ta') :: (x, instObj 157 dx) :: (dx, dML w v1 v2 (cellV c0 t0) (cellV c1 t1) y k1 k2 k3 k4 k5 ta tm) :: news ∧
        (∀ p ∈ news, p.1 < dx) ∧ belowN dx x ∧ belowN x dy ∧ belowN dy y ∧ ok8 (fmtOf c0 v1) = true ∧ ok8 (fmtOf c1 v2) = true)
      (fun nx => nx = news ∧ (ok8 (fmtOf c0 v1) && ok8 (fmtOf c1 v2)) = false) := by
  cases c0 <;> cases c1 <;> (
  intro dp un cn cs a ccd cl outer A₀ base h₀ L m s Q E B F K N T hk hdp hun hret hraise
  dsimp only [cellV, fmtOf] at hret hraise ⊢
  walk_at "my make"
  k_steps
  all_goals first
    | walk_at "my raise"
    | exact hret.use (by assumption) (by assumption) ⟨_, _, _, _, _, _, _, _, _, _, _, _, _, rfl, rfl, by assumption, by (unfold belowN; omega), by (unfold belowN; omega), by (unfold belowN; omega), by assumption, by assumption⟩)
end
/-- the lines that were read for the part above are not those of the next one -/
theorem pause_ZC2 : True ∧ True := by first | (walk1; fail) | (w_top off; exact ⟨trivial, trivial⟩)
section
theorem fill_ZC2b : (PySem.Challenge.rw_fe0333_02, hd.heap_39) = (PySem.Challenge.rw_fe0333_02, hd.heap_39) := by k_fill; rfl
local macro_rules | `(tactic| walk_at "binaryOp Pow int int") => `(tactic| (k_here; (with_reducible refine pow_int_small ?kb1 ?kb2 ?kb3 ?_); (case kb1 => first | decide | exact fmod_nn _ (by decide)); (case kb2 => first | decide | exact fmod_le6 _ (by decide) (by decide)); (case kb3 => decide)))
local macro_rules | `(tactic| walk_at "getMethod ref") => `(tactic| (k_here; (with_reducible show wpAny _ _ (getMethod (Value.ref 57) (Str.ofString "keys") _) _ _ _); refine keys_get (keyed57 (by k_asm)) (by k_asm) ?_))
local macro_rules | `(tactic| walk_at "getMethod ref") => `(tactic| (k_here; (with_reducible show wpAny _ _ (getMethod (Value.ref 58) (Str.ofString "keys") _) _ _ _); refine keys_get (keyed58 (by k_asm)) (by k_asm) ?_))
local macro_rules | `(tactic| walk_at "call builtin:dict.keys") => `(tactic| (k_here; (with_reducible show wpAny _ _ (call (Value.builtin "dict.keys") [Value.ref _]) _ _ _); (first | (refine keys_call (keyed57 (by k_asm)) (by k_asm) (by k_asm) ?_) | (refine keys_call (keyed58 (by k_asm)) (by k_asm) (by k_asm) ?_)); intro V' h' F' N' l1; (try k_lt l1)))
local macro_rules | `(tactic| walk_at "call type:list") => `(tactic| (k_here; (with_reducible show wpAny _ _ (call (Value.type _) [Value.ref _]) _ _ _); (first | (refine keys_list (keyed57 (by k_asm)) rfl (by k_asm) (by k_asm) (by k_mem) ?_) | (refine keys_list (keyed58 (by k_asm)) rfl (by k_asm) (by k_asm) (by k_mem) ?_)); intro B' c' h' tk' t1 t2 t3 t4 t5 t6 t7 t8 F' N' l1; (try k_lt l1)))
local macro_rules | `(tactic| walk_at "binaryOp Mod str ref") => `(tactic| (k_here; (with_reducible show wpAny _ _ (binaryOp Operator.Mod (Value.str (Str.ofString "address_format must be an integer selected from : %s ") _) (Value.ref _)) _ _ _); refine' text1 ?a1 ?a2 ?a3 ?g ?u ?_; (case a1 => k_asm); (case a2 => k_asm); (case a3 => k_mem); (case g => (first | (simp only [guards_deeper, guards_make]; done) | ((try simp only [guards_deeper, guards_make]); rfl))); (case u => (have hc9 := cLine_is; (try simp only [units_make, units_deeper, units_in1]); (try dsimp only [ktrTop]); omega)); intro t' h' tk' F' N'))
local macro_rules | `(tactic| walk_at "binaryOp Mod str ref") => `(tactic| (k_here; (with_reducible show wpAny _ _ (binaryOp Operator.Mod (Value.str (Str.ofString "memorysize_format must be an integer selected from : %s") _) (Value.ref _)) _ _ _); refine' text2 ?a1 ?a2 ?a3 ?g ?u ?_; (case a1 => k_asm); (case a2 => k_asm); (case a3 => k_mem); (case g => (first | (simp only [guards_deeper, guards_make]; done) | ((try simp only [guards_deeper, guards_make]); rfl))); (case u => (have hc9 := cLine_is; (try simp only [units_make, units_deeper, units_in1]); (try dsimp only [ktrTop]); omega)); intro t' h' tk' F' N'))
local macro_rules | `(tactic| walk_at "my enter") => `(tactic| k_dflt (refine' code_def ?k1 ?k2 ?k3 ?k4 ?k5 ?kA ?kF ?kK ?k6 ?k7 ?k8 ?k9 ?kB ?_ ?c2 ?c3 ?c4 ?c5; (case kA => exact rfl); (case kF => exact rfl); (case kK => first | assumption | exact rfl); (case k1 => k_asm); (case k2 => k_asm); (case k3 => k_asm); (case k4 => k_asm); (case k5 => k_asm); (case k6 => k_is); (case k7 => k_is); (case k8 => ((try simp only [depth_make, depth_deeper, depth_in1]); (try dsimp only [ktrTop]); omega)); (case k9 => first | exact BindsTo.of_eq rfl | exact binds_K (by k_in) rfl (by k_is) rfl rfl rfl); (case c5 => decide); (case kB => exact locs rfl); (case c2 => exact rfl); (case c3 => exact rfl); (case c4 => exact rfl); k_whole; intro g' L' h' FG' F' N' B' X' T'; (try dsimp only); (try k_fold)))
local macro_rules | `(tactic| walk_at "my make") => `(tactic| (k_dflt (refine' call_cls ?k1 ?k2 ?k3 ?k4 ?k5 ?k6 ?_; (case k1 => k_asm); (case k2 => k_asm); (case k3 => k_asm); (case k4 => k_is); (case k5 => k_is); (case k6 => k_is); k_whole; intro x' d' h' F' N' l1 l2; (try k_lt l1); (try k_lt2 l2); (try k_sweep)); walk_at "my enter"))
local macro_rules | `(tactic| walk_at "my room") => `(tactic| first | ((try simp only [depth_make, depth_deeper, depth_in1, units_make, units_deeper, units_in1]); (try dsimp only [ktrTop]); omega) | decide | (with_unfolding_all decide))
local macro_rules | `(tactic| walk_at "leaving ref") => `(tactic| (k_here; first | (refine' leave_raiseS ?k1 ?k0 ?k2 ?k3 ?_; (case k0 => first | assumption | exact Heap.MadeExc.of (by assumption)); (case k2 => assumption); (case k1 => assumption); (case k3 => k_asm); k_whole; intro h' t' S' R' U'; (try dsimp only at S' R' U' ⊢)) | (refine' leave_onS ?k1 ?k2 ?k3 ?k4 ?_; (case k3 => assumption); (case k2 => assumption); (case k1 => assumption); (case k4 => assumption); k_whole; intro h' S' R' U'; (try dsimp only at S' R' U' ⊢))))
local macro_rules | `(tactic| walk_at "call ref") => `(tactic| (k_here; (with_reducible show wpAny _ _ (call (Value.ref 116) [Value.ref _, Value.int _ _] _) _ _ _); k_dflt (refine' c_auto1 _ _ _ _ _ _ _ _ _ _ _ _ _ _ _ _ _ _ _ _ _ _ _ _ ?k1 ?k2 ?k3 ?k4 ?k5 ?kK ?kd ?ku ?_ ?_; (case k1 => k_asm); (case k2 => k_asm); (case k3 => k_asm); (case k4 => k_asm); (case k5 => k_asm); (case kK => first | exact rfl | assumption); (case kd => walk_at "my room"); (case ku => walk_at "my room"); (focus (unfold Bck; intro v9 n9 h' tk' F' N' r9; obtain ⟨e9, hle, t9, e8⟩ := r9; subst e9; subst e8; (try dsimp only); (try k_fold))); rotate_left; (focus (unfold Rai; intro n9 r9; obtain ⟨e9, hle⟩ := r9; subst e9; intro g' e' t' vs' h' tk' FG' R' U'; (try dsimp only); (try k_fold))); rotate_left)))
local macro_rules | `(tactic| walk_at "call ref") => `(tactic| (k_here; (with_reducible show wpAny _ _ (call (Value.ref 123) [Value.ref _, Value.int _ _] _) _ _ _); k_dflt (refine' c_auto2 _ _ _ _ _ _ _ _ _ _ _ _ _ _ _ _ _ _ _ _ _ _ _ _ ?k1 ?k2 ?k3 ?k4 ?k5 ?kK ?kd ?ku ?_ ?_; (case k1 => k_asm); (case k2 => k_asm); (case k3 => k_asm); (case k4 => k_asm); (case k5 => k_asm); (case kK => first | exact rfl | assumption); (case kd => walk_at "my room"); (case ku => walk_at "my room"); (focus (unfold Bck; intro v9 n9 h' tk' F' N' r9; obtain ⟨e9, hle, t9, e8⟩ := r9; subst e9; subst e8; (try dsimp only); (try k_fold))); rotate_left; (focus (unfold Rai; intro n9 r9; obtain ⟨e9, hle⟩ := r9; subst e9; intro g' e' t' vs' h' tk' FG' R' U'; (try dsimp only); (try k_fold))); rotate_left)))
local macro_rules | `(tactic| walk_at "call ref") => `(tactic| (k_here; (with_reducible show wpAny _ _ (call (Value.ref 82) [] _) _ _ _); k_dflt (refine' c_alfid _ _ _ _ _ _ _ _ _ _ _ _ _ _ _ _ _ _ _ _ _ _ _ _ _ ?k1 ?k2 ?k3 ?k4 ?k5 ?kK ?kd ?ku ?_ ?_; (case k1 => k_asm); (case k2 => k_asm); (case k3 => k_asm); (case k4 => k_asm); (case k5 => k_asm); (case kK => first | exact rfl | assumption); (case kd => walk_at "my room"); (case ku => walk_at "my room"); (focus (unfold Bck; intro v9 n9 h' tk' F' N' r9; obtain ⟨x9, d9, ka9, kb9, e9, e8, l2, l1, hfa, hfm⟩ := r9; subst e9; subst e8; (try k_lt l1); (try k_lt2 l2); (try dsimp only); (try k_fold))); rotate_left; (focus (unfold Rai; intro n9 r9; obtain ⟨e9, hno⟩ := r9; subst e9; intro g' e' t' vs' h' tk' FG' R' U'; (try dsimp only); (try k_fold))); rotate_left)))
local macro_rules | `(tactic| walk_at "my sub") => `(tactic| ((repeat' (refine List.forall_mem_cons.mpr ⟨by k_mem, ?_⟩)); (intro p hp; repeat (first | exact hp | apply List.Mem.tail))))
local macro_rules | `(tactic| walk_at "my no") => `(tactic| first | assumption | exact and_no1 (by assumption) | exact and_no2 (by assumption) | exact and_no1 (no8 (by assumption)) | exact and_no2 (no8 (by assumption)))
local macro_rules | `(tactic| walk_at "my raise") => `(tactic| ((try dsimp only [InitBack]); refine' Rai.use2 ?H ?C ?U ?F ?R ?S; (case H => assumption); (case C => walk_at "my no"); (case U => assumption); (case F => assumption); (case R => assumption); (case S => walk_at "my sub")))
set_option maxHeartbeats 8000000 in
theorem c_ml2 (w : World) (mean : ExcName → Option Value) (mg mb : Str → Option Value) (news : List (Addr × Obj)) (v1 v2 : Int) (ta tm : Tok) :
    Does 20 w mean mg mb 157 [.int v1 ta, .int v2 tm] [] news
      (fun r news' => ∃ x dx y dy k1 k2 k3 k4 k5 ka kb ta' tm', r = .ref x ∧
        news' = (y, instObj 82 dy) :: (dy, dAl w (fmtOf none v2) (fmtOf none v1) ka kb tm' ta') :: (x, instObj 157 dx) :: (dx, dML w v1 v2 (cellV none 0) (cellV none 0) y k1 k2 k3 k4 k5 ta tm) :: news ∧
        (∀ p ∈ news, p.1 < dx) ∧ belowN dx x ∧ belowN x dy ∧ belowN dy y ∧ ok8 (fmtOf none v1) = true ∧ ok8 (fmtOf none v2) = true)
      (fun nx => nx = news ∧ (ok8 (fmtOf none v1) && ok8 (fmtOf none v2)) = false) := by
  intro dp un cn cs a ccd cl outer A₀ base h₀ L m s Q E B F K N T hk hdp hun hret hraise
  dsimp only [cellV, fmtOf] at hret hraise ⊢
  walk_at "my make"
  k_steps
  all_goals first
    | walk_at "my raise"
    | exact hret.use (by assumption) (by assumption) ⟨_, _, _, _, _, _, _, _, _, _, _, _, _, rfl, rfl, by assumption, by (unfold belowN; omega), by (unfold belowN; omega), by (unfold belowN; omega), by assumption, by assumption⟩
end
/-- the lines that were read for the part above are not those of the next one -/
theorem pause_ZC2b : True ∧ True := by first | (walk1; fail) | (w_top off; exact ⟨trivial, trivial⟩)
section
theorem fill_ZC3 : (PySem.Challenge.rw_fe0333_02, hd.heap_39) = (PySem.Challenge.rw_fe0333_02, hd.heap_39) := by k_fill; rfl
local macro_rules | `(tactic| walk_at "binaryOp Pow int int") => `(tactic| (k_here; (with_reducible refine pow_int_small ?kb1 ?kb2 ?kb3 ?_); (case kb1 => first | decide | exact fmod_nn _ (by decide)); (case kb2 => first | decide | exact fmod_le6 _ (by decide) (by decide)); (case kb3 => decide)))
local macro_rules | `(tactic| walk_at "getMethod ref") => `(tactic| (k_here; (with_reducible show wpAny _ _ (getMethod (Value.ref 57) (Str.ofString "keys") _) _ _ _); refine keys_get (keyed57 (by k_asm)) (by k_asm) ?_))
local macro_rules | `(tactic| walk_at "getMethod ref") => `(tactic| (k_here; (with_reducible show wpAny _ _ (getMethod (Value.ref 58) (Str.ofString "keys") _) _ _ _); refine keys_get (keyed58 (by k_asm)) (by k_asm) ?_))
local macro_rules | `(tactic| walk_at "call builtin:dict.keys") => `(tactic| (k_here; (with_reducible show wpAny _ _ (call (Value.builtin "dict.keys") [Value.ref _]) _ _ _); (first | (refine keys_call (keyed57 (by k_asm)) (by k_asm) (by k_asm) ?_) | (refine keys_call (keyed58 (by k_asm)) (by k_asm) (by k_asm) ?_)); intro V' h' F' N' l1; (try k_lt l1)))
local macro_rules | `(tactic| walk_at "call type:list") => `(tactic| (k_here; (with_reducible show wpAny _ _ (call (Value.type _) [Value.ref _]) _ _ _); (first | (refine keys_list (keyed57 (by k_asm)) rfl (by k_asm) (by k_asm) (by k_mem) ?_) | (refine keys_list (keyed58 (by k_asm)) rfl (by k_asm) (by k_asm) (by k_mem) ?_)); intro B' c' h' tk' t1 t2 t3 t4 t5 t6 t7 t8 F' N' l1; (try k_lt l1)))
local macro_rules | `(tactic| walk_at "binaryOp Mod str ref") => `(tactic| (k_here; (with_reducible show wpAny _ _ (binaryOp Operator.Mod (Value.str (Str.ofString "address_format must be an integer selected from : %s ") _) (Value.ref _)) _ _ _); refine' text1 ?a1 ?a2 ?a3 ?g ?u ?_; (case a1 => k_asm); (case a2 => k_asm); (case a3 => k_mem); (case g => (first | (simp only [guards_deeper, guards_make]; done) | ((try simp only [guards_deeper, guards_make]); rfl))); (case u => (have hc9 := cLine_is; (try simp only [units_make, units_deeper, units_in1]); (try dsimp only [ktrTop]); omega)); intro t' h' tk' F' N'))
local macro_rules | `(tactic| walk_at "binaryOp Mod str ref") => `(tactic| (k_here; (with_reducible show wpAny _ _ (binaryOp Operator.Mod (Value.str (Str.ofString "memorysize_format must be an integer selected from : %s") _) (Value.ref _)) _ _ _); refine' text2 ?a1 ?a2 ?a3 ?g ?u ?_; (case a1 => k_asm); (case a2 => k_asm); (case a3 => k_mem); (case g => (first | (simp only [guards_deeper, guards_make]; done) | ((try simp only [guards_deeper, guards_make]); rfl))); (case u => (have hc9 := cLine_is; (try simp only [units_make, units_deeper, units_in1]); (try dsimp only [ktrTop]); omega)); intro t' h' tk' F' N'))
local macro_rules | `(tactic| walk_at "my enter") => `(tactic| k_dflt (refine' code_def ?k1 ?k2 ?k3 ?k4 ?k5 ?kA ?kF ?kK ?k6 ?k7 ?k8 ?k9 ?kB ?_ ?c2 ?c3 ?c4 ?c5; (case kA => exact rfl); (case kF => exact rfl); (case kK => first | assumption | exact rfl); (case k1 => k_asm); (case k2 => k_asm); (case k3 => k_asm); (case k4 => k_asm); (case k5 => k_asm); (case k6 => k_is); (case k7 => k_is); (case k8 => ((try simp only [depth_make, depth_deeper, depth_in1]); (try dsimp only [ktrTop]); omega)); (case k9 => first | exact BindsTo.of_eq rfl | exact binds_K (by k_in) rfl (by k_is) rfl rfl rfl); (case c5 => decide); (case kB => exact locs rfl); (case c2 => exact rfl); (case c3 => exact rfl); (case c4 => exact rfl); k_whole; intro g' L' h' FG' F' N' B' X' T'; (try dsimp only); (try k_fold)))
local macro_rules | `(tactic| walk_at "my make") => `(tactic| (k_dflt (refine' call_cls ?k1 ?k2 ?k3 ?k4 ?k5 ?k6 ?_; (case k1 => k_asm); (case k2 => k_asm); (case k3 => k_asm); (case k4 => k_is); (case k5 => k_is); (case k6 => k_is); k_whole; intro x' d' h' F' N' l1 l2; (try k_lt l1); (try k_lt2 l2); (try k_sweep)); walk_at "my enter"))
local macro_rules | `(tactic| walk_at "my room") => `(tactic| ((try simp only [depth_make, depth_deeper, depth_in1, units_make, units_deeper, units_in1]); (try dsimp only [ktrTop]); omega))
local macro_rules | `(tactic| walk_at "leaving ref") => `(tactic| (k_here; first | (refine' leave_raiseS ?k1 ?k0 ?k2 ?k3 ?_; (case k0 => first | assumption | exact Heap.MadeExc.of (by assumption)); (case k2 => assumption); (case k1 => assumption); (case k3 => k_asm); k_whole; intro h' t' S' R' U'; (try dsimp only at S' R' U' ⊢)) | (refine' leave_onS ?k1 ?k2 ?k3 ?k4 ?_; (case k3 => assumption); (case k2 => assumption); (case k1 => assumption); (case k4 => assumption); k_whole; intro h' S' R' U'; (try dsimp only at S' R' U' ⊢))))
local macro_rules | `(tactic| walk_at "call ref") => `(tactic| (k_here; (with_reducible show wpAny _ _ (call (Value.ref 116) [Value.ref _, Value.int _ _] _) _ _ _); k_dflt (refine' c_auto1 _ _ _ _ _ _ _ _ _ _ _ _ _ _ _ _ _ _ _ _ _ _ _ _ ?k1 ?k2 ?k3 ?k4 ?k5 ?kK ?kd ?ku ?_ ?_; (case k1 => k_asm); (case k2 => k_asm); (case k3 => k_asm); (case k4 => k_asm); (case k5 => k_asm); (case kK => first | exact rfl | assumption); (case kd => walk_at "my room"); (case ku => walk_at "my room"); (focus (unfold Bck; intro v9 n9 h' tk' F' N' r9; obtain ⟨e9, hle, t9, e8⟩ := r9; subst e9; subst e8; (try dsimp only); (try k_fold))); rotate_left; (focus (unfold Rai; intro n9 r9; obtain ⟨e9, hle⟩ := r9; subst e9; intro g' e' t' vs' h' tk' FG' R' U'; (try dsimp only); (try k_fold))); rotate_left)))
local macro_rules | `(tactic| walk_at "call ref") => `(tactic| (k_here; (with_reducible show wpAny _ _ (call (Value.ref 123) [Value.ref _, Value.int _ _] _) _ _ _); k_dflt (refine' c_auto2 _ _ _ _ _ _ _ _ _ _ _ _ _ _ _ _ _ _ _ _ _ _ _ _ ?k1 ?k2 ?k3 ?k4 ?k5 ?kK ?kd ?ku ?_ ?_; (case k1 => k_asm); (case k2 => k_asm); (case k3 => k_asm); (case k4 => k_asm); (case k5 => k_asm); (case kK => first | exact rfl | assumption); (case kd => walk_at "my room"); (case ku => walk_at "my room"); (focus (unfold Bck; intro v9 n9 h' tk' F' N' r9; obtain ⟨e9, hle, t9, e8⟩ := r9; subst e9; subst e8; (try dsimp only); (try k_fold))); rotate_left; (focus (unfold Rai; intro n9 r9; obtain ⟨e9, hle⟩ := r9; subst e9; intro g' e' t' vs' h' tk' FG' R' U'; (try dsimp only); (try k_fold))); rotate_left)))
local macro_rules | `(tactic| walk_at "call ref") => `(tactic| (k_here; (with_reducible show wpAny _ _ (call (Value.ref 82) [] _) _ _ _); k_dflt (refine' c_alfid _ _ _ _ _ _ _ _ _ _ _ _ _ _ _ _ _ _ _ _ _ _ _ _ _ ?k1 ?k2 ?k3 ?k4 ?k5 ?kK ?kd ?ku ?_ ?_; (case k1 => k_asm); (case k2 => k_asm); (case k3 => k_asm); (case k4 => k_asm); (case k5 => k_asm); (case kK => first | exact rfl | assumption); (case kd => walk_at "my room"); (case ku => walk_at "my room"); (focus (unfold Bck; intro v9 n9 h' tk' F' N' r9; obtain ⟨x9, d9, ka9, kb9, e9, e8, l2, l1, hfa, hfm⟩ := r9; subst e9; subst e8; (try k_lt l1); (try k_lt2 l2); (try dsimp only); (try k_fold))); rotate_left; (focus (unfold Rai; intro n9 r9; obtain ⟨e9, hno⟩ := r9; subst e9; intro g' e' t' vs' h' tk' FG' R' U'; (try dsimp only); (try k_fold))); rotate_left)))
local macro_rules | `(tactic| walk_at "my sub") => `(tactic| ((repeat' (refine List.forall_mem_cons.mpr ⟨by k_mem, ?_⟩)); (intro p hp; repeat (first | exact hp | apply List.Mem.tail))))
local macro_rules | `(tactic| walk_at "my no") => `(tactic| first | assumption | exact and_no1 (by assumption) | exact and_no2 (by assumption) | exact and_no1 (no8 (by assumption)) | exact and_no2 (no8 (by assumption)))
local macro_rules | `(tactic| walk_at "my raise") => `(tactic| ((try dsimp only [InitBack]); refine' Rai.use2 ?H ?C ?U ?F ?R ?S; (case H => assumption); (case C => walk_at "my no"); (case U => assumption); (case F => assumption); (case R => assumption); (case S => walk_at "my sub")))
local macro_rules | `(tactic| walk_at "subscriptTail Attribute Name Attribute ref int") => `(tactic| (k_here; k_dflt (refine kba_turn (value' := PySem.Expr.Name (PySem.Str.ofString "_") ⟨0, 0, 0, 0⟩) (fun _ => rfl) ?_)))
local macro_rules | `(tactic| walk_at "subscriptTail Name Attribute ref int") => `(tactic| (k_here; (with_reducible show wpAny _ _ (subscriptTail _ _ (Value.ref _) (Value.int _ _)) _ _ _); k_dflt (refine' map_item ?k1 ?k2 ?k3 ?_; (case k1 => first | exact keyed57 (by k_asm) | exact keyed58 (by k_asm)); (case k2 => k_asm); (case k3 => k_asm); intro t')))
local macro_rules | `(tactic| walk_at "call builtin:_struct.pack") => `(tactic| (k_here; (with_reducible show wpAny _ _ (call (Value.builtin _) [Value.str _ _, Value.int _ _]) _ _ _); refine call_pack (by assumption) (by assumption) ?_; intro t'))
local macro_rules | `(tactic| walk_at "subscriptTail Name Slice bytes ref") => `(tactic| (k_here; (with_reducible show wpAny _ _ (subscriptTail _ (Expr.Slice _ _ none _) (Value.bytes (packB _) _) (Value.ref _)) _ _ _); (with_reducible rename Fr _ _ _ _ => F'); (with_reducible rename News _ _ _ _ => N'); (refine KBc.slice_K (s := ⟨_, _, _, _, _⟩) F' N' rfl (by constructor) (by constructor) (by rw [KBw.ints_length, packB_size]; decide) ?_); intro h' t' tk' F' N' kbcK))
set_option maxHeartbeats 8000000 in
theorem c_byte (w : World) (mean : ExcName → Option Value) (mg mb : Str → Option Value) (news : List (Addr × Obj)) (y dy : Addr) (fm fa : Int) (ka kb tm ta : Tok) (h1 : (y, instObj 82 dy) ∈ news) (h2 : (dy, dAl w fm fa ka kb tm ta) ∈ news) (ha : ok8 fa = true) (hm : ok8 fm = true) :
    Does 5 w mean mg mb 72 [.ref y] [] news (fun r news' => news' = news ∧ ∃ t', r = .int (16 * (fm / 8) + fa / 8) t') (fun nx => nx = news ∧ False) := by
  intro dp un cn cs a ccd cl outer A₀ base h₀ L m s Q E B F K N T hk hdp hun hret hraise
  have b1 := ok8_bnd ha
  have b2 := ok8_bnd hm
  refine wpAny_call ?_
  walk_at "my enter"
  k_steps
  rw [ok8_byte ha hm]
  exact hret.use (by assumption) (by assumption) ⟨rfl, _, rfl⟩
set_option maxHeartbeats 8000000 in
theorem c_abytes (w : World) (mean : ExcName → Option Value) (mg mb : Str → Option Value) (news : List (Addr × Obj)) (x dx y dy : Addr) (v1 v2 : Int) (f1 f2 : Value) (k1 k2 k3 k4 k5 tv1 tv2 : Tok) (fm fa : Int) (ka kb tm ta : Tok)
    (m1 : (x, instObj 157 dx) ∈ news) (m2 : (dx, dML w v1 v2 f1 f2 y k1 k2 k3 k4 k5 tv1 tv2) ∈ news) (m3 : (y, instObj 82 dy) ∈ news) (m4 : (dy, dAl w fm fa ka kb tm ta) ∈ news) (ha : ok8 fa = true) (h0 : 0 ≤ v1) (h63 : v1 < 2 ^ 63) :
    Does 5 w mean mg mb 130 [.ref x] [] news (fun r news' => news' = news ∧ ∃ b t', r = .bytes b t' ∧ KBw.bInts b = digs (fa / 8).toNat v1) (fun nx => nx = news ∧ False) := by
  intro dp un cn cs a ccd cl outer A₀ base h₀ L m s Q E B F K N T hk hdp hun hret hraise
  have b1 := ok8_bnd ha
  refine wpAny_call ?_
  walk_at "my enter"
  k_steps
  exact hret.use (by assumption) (by assumption) ⟨rfl, _, _, rfl, cut_digs h0 h63 ha⟩
set_option maxHeartbeats 8000000 in
theorem c_mbytes (w : World) (mean : ExcName → Option Value) (mg mb : Str → Option Value) (news : List (Addr × Obj)) (x dx y dy : Addr) (v1 v2 : Int) (f1 f2 : Value) (k1 k2 k3 k4 k5 tv1 tv2 : Tok) (fm fa : Int) (ka kb tm ta : Tok)
    (m1 : (x, instObj 157 dx) ∈ news) (m2 : (dx, dML w v1 v2 f1 f2 y k1 k2 k3 k4 k5 tv1 tv2) ∈ news) (m3 : (y, instObj 82 dy) ∈ news) (m4 : (dy, dAl w fm fa ka kb tm ta) ∈ news) (ha : ok8 fm = true) (h0 : 0 ≤ v2) (h63 : v2 < 2 ^ 63) :
    Does 5 w mean mg mb 137 [.ref x] [] news (fun r news' => news' = news ∧ ∃ b t', r = .bytes b t' ∧ KBw.bInts b = digs (fm / 8).toNat v2) (fun nx => nx = news ∧ False) := by
  intro dp un cn cs a ccd cl outer A₀ base h₀ L m s Q E B F K N T hk hdp hun hret hraise
  have b1 := ok8_bnd ha
  refine wpAny_call ?_
  walk_at "my enter"
  k_steps
  exact hret.use (by assumption) (by assumption) ⟨rfl, _, _, rfl, cut_digs h0 h63 ha⟩
end
/-- the lines that were read for the part above are not those of the next one -/
theorem pause_ZC3 : True ∧ True := by first | (walk1; fail) | (w_top off; exact ⟨trivial, trivial⟩)
section
theorem fill_Z4 : (PySem.Challenge.rw_fe0333_02, hd.heap_39) = (PySem.Challenge.rw_fe0333_02, hd.heap_39) := by k_fill; rfl
local macro_rules | `(tactic| walk_at "binaryOp Pow int int") => `(tactic| (k_here; (with_reducible refine pow_int_small ?kb1 ?kb2 ?kb3 ?_); (case kb1 => first | decide | exact fmod_nn _ (by decide)); (case kb2 => first | decide | exact fmod_le6 _ (by decide) (by decide)); (case kb3 => decide)))
local macro_rules | `(tactic| walk_at "getMethod ref") => `(tactic| (k_here; (with_reducible show wpAny _ _ (getMethod (Value.ref 57) (Str.ofString "keys") _) _ _ _); refine keys_get (keyed57 (by k_asm)) (by k_asm) ?_))
local macro_rules | `(tactic| walk_at "getMethod ref") => `(tactic| (k_here; (with_reducible show wpAny _ _ (getMethod (Value.ref 58) (Str.ofString "keys") _) _ _ _); refine keys_get (keyed58 (by k_asm)) (by k_asm) ?_))
local macro_rules | `(tactic| walk_at "call builtin:dict.keys") => `(tactic| (k_here; (with_reducible show wpAny _ _ (call (Value.builtin "dict.keys") [Value.ref _]) _ _ _); (first | (refine keys_call (keyed57 (by k_asm)) (by k_asm) (by k_asm) ?_) | (refine keys_call (keyed58 (by k_asm)) (by k_asm) (by k_asm) ?_)); intro V' h' F' N' l1; (try k_lt l1)))
local macro_rules | `(tactic| walk_at "call type:list") => `(tactic| (k_here; (with_reducible show wpAny _ _ (call (Value.type _) [Value.ref _]) _ _ _); (first | (refine keys_list (keyed57 (by k_asm)) rfl (by k_asm) (by k_asm) (by k_mem) ?_) | (refine keys_list (keyed58 (by k_asm)) rfl (by k_asm) (by k_asm) (by k_mem) ?_)); intro B' c' h' tk' t1 t2 t3 t4 t5 t6 t7 t8 F' N' l1; (try k_lt l1)))
local macro_rules | `(tactic| walk_at "binaryOp Mod str ref") => `(tactic| (k_here; (with_reducible show wpAny _ _ (binaryOp Operator.Mod (Value.str (Str.ofString "address_format must be an integer selected from : %s ") _) (Value.ref _)) _ _ _); refine' text1 ?a1 ?a2 ?a3 ?g ?u ?_; (case a1 => k_asm); (case a2 => k_asm); (case a3 => k_mem); (case g => (first | (simp only [guards_deeper, guards_make]; done) | ((try simp only [guards_deeper, guards_make]); rfl))); (case u => (have hc9 := cLine_is; (try simp only [units_make, units_deeper, units_in1]); (try dsimp only [ktrTop]); omega)); intro t' h' tk' F' N'))
local macro_rules | `(tactic| walk_at "binaryOp Mod str ref") => `(tactic| (k_here; (with_reducible show wpAny _ _ (binaryOp Operator.Mod (Value.str (Str.ofString "memorysize_format must be an integer selected from : %s") _) (Value.ref _)) _ _ _); refine' text2 ?a1 ?a2 ?a3 ?g ?u ?_; (case a1 => k_asm); (case a2 => k_asm); (case a3 => k_mem); (case g => (first | (simp only [guards_deeper, guards_make]; done) | ((try simp only [guards_deeper, guards_make]); rfl))); (case u => (have hc9 := cLine_is; (try simp only [units_make, units_deeper, units_in1]); (try dsimp only [ktrTop]); omega)); intro t' h' tk' F' N'))
local macro_rules | `(tactic| walk_at "my enter") => `(tactic| k_dflt (refine' code_def ?k1 ?k2 ?k3 ?k4 ?k5 ?kA ?kF ?kK ?k6 ?k7 ?k8 ?k9 ?kB ?_ ?c2 ?c3 ?c4 ?c5; (case kA => exact rfl); (case kF => exact rfl); (case kK => first | assumption | exact rfl); (case k1 => k_asm); (case k2 => k_asm); (case k3 => k_asm); (case k4 => k_asm); (case k5 => k_asm); (case k6 => k_is); (case k7 => k_is); (case k8 => ((try simp only [depth_make, depth_deeper, depth_in1]); (try dsimp only [ktrTop]); omega)); (case k9 => first | exact BindsTo.of_eq rfl | exact binds_K (by k_in) rfl (by k_is) rfl rfl rfl); (case c5 => decide); (case kB => exact locs rfl); (case c2 => exact rfl); (case c3 => exact rfl); (case c4 => exact rfl); k_whole; intro g' L' h' FG' F' N' B' X' T'; (try dsimp only); (try k_fold)))
local macro_rules | `(tactic| walk_at "my make") => `(tactic| (k_dflt (refine' call_cls ?k1 ?k2 ?k3 ?k4 ?k5 ?k6 ?_; (case k1 => k_asm); (case k2 => k_asm); (case k3 => k_asm); (case k4 => k_is); (case k5 => k_is); (case k6 => k_is); k_whole; intro x' d' h' F' N' l1 l2; (try k_lt l1); (try k_lt2 l2); (try k_sweep)); walk_at "my enter"))
local macro_rules | `(tactic| walk_at "my room") => `(tactic| first | ((try simp only [depth_make, depth_deeper, depth_in1, units_make, units_deeper, units_in1]); (try dsimp only [ktrTop]); omega) | decide | (with_unfolding_all decide))
local macro_rules | `(tactic| walk_at "leaving ref") => `(tactic| (k_here; first | (refine' leave_raiseS ?k1 ?k0 ?k2 ?k3 ?_; (case k0 => first | assumption | exact Heap.MadeExc.of (by assumption)); (case k2 => assumption); (case k1 => assumption); (case k3 => k_asm); k_whole; intro h' t' S' R' U'; (try dsimp only at S' R' U' ⊢)) | (refine' leave_onS ?k1 ?k2 ?k3 ?k4 ?_; (case k3 => assumption); (case k2 => assumption); (case k1 => assumption); (case k4 => assumption); k_whole; intro h' S' R' U'; (try dsimp only at S' R' U' ⊢))))
local macro_rules | `(tactic| walk_at "my sub") => `(tactic| ((repeat' (refine List.forall_mem_cons.mpr ⟨by k_mem, ?_⟩)); (intro p hp; repeat (first | exact hp | apply List.Mem.tail))))
local macro_rules | `(tactic| walk_at "my no") => `(tactic| first | assumption | exact and_no1 (by assumption) | exact and_no2 (by assumption) | exact and_no1 (no8 (by assumption)) | exact and_no2 (no8 (by assumption)))
local macro_rules | `(tactic| walk_at "my raise") => `(tactic| ((try dsimp only [InitBack]); refine' Rai.use2 ?H ?C ?U ?F ?R ?S; (case H => assumption); (case C => walk_at "my no"); (case U => assumption); (case F => assumption); (case R => assumption); (case S => walk_at "my sub")))
/-- the number of a row of octets -/
def numOf (ns : List Int) : Int := ns.foldl (fun a d => a * 256 + d) 0
theorem numOf_snoc (ns : List Int) (d : Int) : numOf (ns ++ [d]) = numOf ns * 256 + d := by
  unfold numOf
  rw [List.foldl_append]
  rfl
theorem numOf_take {ns : List Int} {i : Nat} (h : i < ns.length) : numOf (ns.take (i + 1)) = numOf (ns.take i) * 256 + ns[i] := by
  rw [← numOf_snoc, List.take_add_one, List.getElem?_eq_getElem h]
  rfl
theorem fr_pick {g h : Heap} {L : Addr} {m : Str → Option Value} {a : Str} {v : Value} (F : Fr g L h m) (e : m a = some v) : Fr g L h (fun y => if y = a then some v else m y) := Fr.asMap F fun y => by
  by_cases hy : y = a
  · rw [if_pos hy, hy, e]
  · rw [if_neg hy]
theorem in_base {K : Frag} {g h : Heap} {L : Addr} {m : Str → Option Value} (_F : Fr g L h m) (X : K.In g) : K.In g := X
def JN (news : List (Addr × Obj)) (ns : List Int) (i : Nat) (m : Str → Option Value) (nx : List (Addr × Obj)) : Prop := nx = news ∧ ∃ t, m (Str.ofString "number") = some (.int (numOf (ns.take i)) t)
def NumPost (g : Heap) (L : Addr) (news : List (Addr × Obj)) (v : Int) (s : Shared) (f : Flow) (s' : Shared) : Prop := f = .next ∧ ∃ h' tk' m' t', s' = { s with heap := h', toks := tk' } ∧ Fr g L h' m' ∧ News g L h' news ∧ m' (Str.ofString "number") = some (.int v t')
theorem loop_number {prog : Program} {w : World} {A : Around} {E : Value → Shared → Prop} {s : Shared} {env : Env} {g : Heap} {Q : Flow → Shared → Prop} {body : List Stmt} {L l : Addr} {vs : List Value} {ns : List Int} {nn : Nat} {m₀ : Str → Option Value} {t0 : Tok} {news : List (Addr × Obj)}
    (hh : A.handled = none) (hL : env.locals = L) (F : Fr g L s.heap m₀) (N : News g L s.heap news) (hl : (l, listOf vs.toArray nn) ∈ news) (hI : IntsAre vs ns) (e : m₀ (Str.ofString "number") = some (.int 0 t0))
    (turn : ∀ (k d : Int) (t1 t2 : Tok) (m₁ : Str → Option Value) (h : Heap) (tk : Nat) (own : List (Addr × Obj)), Fr g L h (fun y => if y = Str.ofString "number" then some (.int k t1) else if y = Str.ofString "octet" then some (.int d t2) else m₁ y) → News g L h (news ++ own) →
      wpAny (model prog w) A (execs body env) (NumPost g L (news ++ own) (k * 256 + d) s) E { s with heap := h, toks := tk })
    (done : ∀ (m₁ : Str → Option Value) (h : Heap) (tk : Nat) (t : Tok), Fr g L h (fun y => if y = Str.ofString "number" then some (.int (numOf ns) t) else m₁ y) → News g L h news → Q .next { s with heap := h, toks := tk }) :
    wpAny (model prog w) A (pyIter (.ref l)) (fun it s₂ => LoopAtV prog w A g env (Str.ofString "octet") body Q E it s₂) E s := by
  subst hL
  refine kdl_iter (JN news ns) hh hl F N ⟨rfl, t0, e⟩ ?_ ?_
  · rintro i v m₁ nx h tk own hv hoff _ ⟨rfl, t, e1⟩ F₁ N₁
    have hi' : i < ns.length := by rw [← hI.length]; exact (List.getElem?_eq_some_iff.mp hv).1
    obtain ⟨t2, hx⟩ := hI.get i (ns[i]'hi') (List.getElem?_eq_getElem hi')
    have ev : v = .int (ns[i]'hi') t2 := by rw [hx] at hv; exact (Option.some.inj hv).symm
    subst ev
    refine wpAny_mono (turn _ _ t t2 m₁ h tk own (fr_pick F₁ (by rw [if_neg (by decide)]; exact e1)) N₁) (fun f s₂ q => ?_) fun _ _ x => x
    obtain ⟨rfl, h', tk', m', t', rfl, F', N', e'⟩ := q
    exact InvEndG.intro F' N' ⟨hl, rfl, t', by rw [numOf_take hi']; exact e'⟩ hoff (fun p hp => List.mem_append.mpr (.inl hp)) (fun p hp => List.mem_append.mpr (.inr hp))
  · rintro m₁ nx h tk ⟨rfl, t, e1⟩ F₁ N₁
    rw [hI.length, List.take_length] at e1
    exact done m₁ h tk t (fr_pick F₁ e1) N₁
local macro_rules | `(tactic| walk_at "exec For Name Name cons nil") => `(tactic| (k_here; (rename Fr _ _ _ _ => lF'); (with_unfolding_all refine' For_invVF lF' ?k1 ?k2 ?_; (case k1 => exact rfl); (case k2 => exact rfl); k_whole)))
local macro_rules | `(tactic| walk_at "pyIter ref") => `(tactic| (k_here; (refine' loop_number ?hh ?hL ?F ?N ?hl ?hI ?e ?_ ?_; (case F => k_asm); (case N => k_asm); (case hh => exact rfl); (case hL => exact rfl); (case hl => assumption); (case hI => assumption); (case e => exact rfl)); (focus (intro k9 d9 t1 t2 m9 h9 tk9 own9 F9 N9; (try dsimp only))); rotate_left; (focus (intro m9 h9 tk9 t9 F9 N9; (try dsimp only))); rotate_left))
set_option maxHeartbeats 8000000 in
theorem c_number (w : World) (mean : ExcName → Option Value) (mg mb : Str → Option Value) (news : List (Addr × Obj)) (l : Addr) (vs : List Value) (ns : List Int) (nl : Nat) (hm : (l, listOf vs.toArray nl) ∈ news) (hI : IntsAre vs ns) :
    Does 5 w mean mg mb 168 [.ref l] [] news (fun r news' => news' = news ∧ ∃ t', r = .int (numOf ns) t') (fun nx => nx = news ∧ False) := by
  intro dp un cn cs a ccd cl outer A₀ base h₀ L m s Q E B F K N T hk hdp hun hret hraise
  refine wpAny_call ?_
  walk_at "my enter"
  k_steps
  · exact ⟨rfl, _, _, _, _, rfl, by assumption, by assumption, rfl⟩
  · exact hret.use (by assumption) (by assumption) ⟨rfl, _, rfl⟩
end
/-- the lines that were read for the part above are not those of the next one -/
theorem pause_Z4 : True ∧ True := by first | (walk1; fail) | (w_top off; exact ⟨trivial, trivial⟩)
section
theorem fill_Z5 : (PySem.Challenge.rw_fe0333_02, hd.heap_39) = (PySem.Challenge.rw_fe0333_02, hd.heap_39) := by k_fill; rfl
local macro_rules | `(tactic| walk_at "binaryOp Pow int int") => `(tactic| (k_here; (with_reducible refine pow_int_small ?kb1 ?kb2 ?kb3 ?_); (case kb1 => first | decide | exact fmod_nn _ (by decide)); (case kb2 => first | decide | exact fmod_le6 _ (by decide) (by decide)); (case kb3 => decide)))
local macro_rules | `(tactic| walk_at "getMethod ref") => `(tactic| (k_here; (with_reducible show wpAny _ _ (getMethod (Value.ref 57) (Str.ofString "keys") _) _ _ _); refine keys_get (keyed57 (by k_asm)) (by k_asm) ?_))
local macro_rules | `(tactic| walk_at "getMethod ref") => `(tactic| (k_here; (with_reducible show wpAny _ _ (getMethod (Value.ref 58) (Str.ofString "keys") _) _ _ _); refine keys_get (keyed58 (by k_asm)) (by k_asm) ?_))
local macro_rules | `(tactic| walk_at "call builtin:dict.keys") => `(tactic| (k_here; (with_reducible show wpAny _ _ (call (Value.builtin "dict.keys") [Value.ref _]) _ _ _); (first | (refine keys_call (keyed57 (by k_asm)) (by k_asm) (by k_asm) ?_) | (refine keys_call (keyed58 (by k_asm)) (by k_asm) (by k_asm) ?_)); intro V' h' F' N' l1; (try k_lt l1)))
local macro_rules | `(tactic| walk_at "call type:list") => `(tactic| (k_here; (with_reducible show wpAny _ _ (call (Value.type _) [Value.ref _]) _ _ _); (first | (refine keys_list (keyed57 (by k_asm)) rfl (by k_asm) (by k_asm) (by k_mem) ?_) | (refine keys_list (keyed58 (by k_asm)) rfl (by k_asm) (by k_asm) (by k_mem) ?_)); intro B' c' h' tk' t1 t2 t3 t4 t5 t6 t7 t8 F' N' l1; (try k_lt l1)))
local macro_rules | `(tactic| walk_at "binaryOp Mod str ref") => `(tactic| (k_here; (with_reducible show wpAny _ _ (binaryOp Operator.Mod (Value.str (Str.ofString "address_format must be an integer selected from : %s ") _) (Value.ref _)) _ _ _); refine' text1 ?a1 ?a2 ?a3 ?g ?u ?_; (case a1 => k_asm); (case a2 => k_asm); (case a3 => k_mem); (case g => (first | (simp only [guards_deeper, guards_make]; done) | ((try simp only [guards_deeper, guards_make]); rfl))); (case u => (have hc9 := cLine_is; (try simp only [units_make, units_deeper, units_in1]); (try dsimp only [ktrTop]); omega)); intro t' h' tk' F' N'))
local macro_rules | `(tactic| walk_at "binaryOp Mod str ref") => `(tactic| (k_here; (with_reducible show wpAny _ _ (binaryOp Operator.Mod (Value.str (Str.ofString "memorysize_format must be an integer selected from : %s") _) (Value.ref _)) _ _ _); refine' text2 ?a1 ?a2 ?a3 ?g ?u ?_; (case a1 => k_asm); (case a2 => k_asm); (case a3 => k_mem); (case g => (first | (simp only [guards_deeper, guards_make]; done) | ((try simp only [guards_deeper, guards_make]); rfl))); (case u => (have hc9 := cLine_is; (try simp only [units_make, units_deeper, units_in1]); (try dsimp only [ktrTop]); omega)); intro t' h' tk' F' N'))
local macro_rules | `(tactic| walk_at "my enter") => `(tactic| k_dflt (refine' code_def ?k1 ?k2 ?k3 ?k4 ?k5 ?kA ?kF ?kK ?k6 ?k7 ?k8 ?k9 ?kB ?_ ?c2 ?c3 ?c4 ?c5; (case kA => exact rfl); (case kF => exact rfl); (case kK => first | assumption | exact rfl); (case k1 => k_asm); (case k2 => k_asm); (case k3 => k_asm); (case k4 => k_asm); (case k5 => k_asm); (case k6 => k_is); (case k7 => k_is); (case k8 => ((try simp only [depth_make, depth_deeper, depth_in1]); (try dsimp only [ktrTop]); omega)); (case k9 => first | exact BindsTo.of_eq rfl | exact binds_K (by k_in) rfl (by k_is) rfl rfl rfl); (case c5 => decide); (case kB => exact locs rfl); (case c2 => exact rfl); (case c3 => exact rfl); (case c4 => exact rfl); k_whole; intro g' L' h' FG' F' N' B' X' T'; (try dsimp only); (try k_fold)))
local macro_rules | `(tactic| walk_at "my make") => `(tactic| (k_dflt (refine' call_cls ?k1 ?k2 ?k3 ?k4 ?k5 ?k6 ?_; (case k1 => k_asm); (case k2 => k_asm); (case k3 => k_asm); (case k4 => k_is); (case k5 => k_is); (case k6 => k_is); k_whole; intro x' d' h' F' N' l1 l2; (try k_lt l1); (try k_lt2 l2); (try k_sweep)); walk_at "my enter"))
local macro_rules | `(tactic| walk_at "my room") => `(tactic| first | ((try simp only [depth_make, depth_deeper, depth_in1, units_make, units_deeper, units_in1]); (try dsimp only [ktrTop]); omega) | decide | (with_unfolding_all decide))
local macro_rules | `(tactic| walk_at "leaving ref") => `(tactic| (k_here; first | (refine' leave_raiseS ?k1 ?k0 ?k2 ?k3 ?_; (case k0 => first | assumption | exact Heap.MadeExc.of (by assumption)); (case k2 => assumption); (case k1 => assumption); (case k3 => k_asm); k_whole; intro h' t' S' R' U'; (try dsimp only at S' R' U' ⊢)) | (refine' leave_onS ?k1 ?k2 ?k3 ?k4 ?_; (case k3 => assumption); (case k2 => assumption); (case k1 => assumption); (case k4 => assumption); k_whole; intro h' S' R' U'; (try dsimp only at S' R' U' ⊢))))
local macro_rules | `(tactic| walk_at "my sub") => `(tactic| ((repeat' (refine List.forall_mem_cons.mpr ⟨by k_mem, ?_⟩)); (intro p hp; repeat (first | exact hp | apply List.Mem.tail))))
local macro_rules | `(tactic| walk_at "my no") => `(tactic| first | assumption | exact and_no1 (by assumption) | exact and_no2 (by assumption) | exact and_no1 (no8 (by assumption)) | exact and_no2 (no8 (by assumption)))
local macro_rules | `(tactic| walk_at "my raise") => `(tactic| ((try dsimp only [InitBack]); refine' Rai.use2 ?H ?C ?U ?F ?R ?S; (case H => assumption); (case C => walk_at "my no"); (case U => assumption); (case F => assumption); (case R => assumption); (case S => walk_at "my sub")))
/-- a row without its leading noughts -/
def bareOf (ns : List Int) : List Int := ns.dropWhile (fun d => d == 0)
theorem bare_at : ∀ (ns : List Int) (k : Nat), k ≤ ns.length → (∀ j, j < k → ns.getD j 1 = 0) → (k = ns.length ∨ ns.getD k 0 ≠ 0) → bareOf ns = ns.drop k
  | [], k, hk, _, _ => by
    have : k = 0 := by simpa using hk
    subst this; rfl
  | n :: ns, 0, _, _, h => by
    rcases h with h | h
    · simp at h
    · have h' : (n == 0) = false := by simpa using h
      unfold bareOf
      rw [List.dropWhile_cons, h']
      rfl
  | n :: ns, k + 1, hk, hz, h => by
    have h0 : n = 0 := by simpa using hz 0 (Nat.succ_pos k)
    have ih := bare_at ns k (by simpa using hk) (fun j hj => by simpa using hz (j + 1) (Nat.succ_lt_succ hj)) (by simpa using h)
    unfold bareOf at ih ⊢
    rw [List.dropWhile_cons, h0]
    simpa using ih
def JB (g : Heap) (L' : Addr) (m0 : Str → Option Value) (news : List (Addr × Obj)) (ns : List Int) (s : Shared) (k : Nat) (s' : Shared) : Prop :=
  ∃ h tk t, s' = { s with heap := h, toks := tk } ∧ k ≤ ns.length ∧ (∀ j, j < k → ns.getD j 1 = 0) ∧ Fr g L' h (fun y => if y = Str.ofString "place" then some (.int (k : Int) t) else m0 y) ∧ News g L' h news
def TB (g : Heap) (L' : Addr) (m0 : Str → Option Value) (news : List (Addr × Obj)) (ns : List Int) (s : Shared) (k : Nat) (s' : Shared) : Prop := ∃ k', JB g L' m0 news ns s k' s' ∧ ns.length - k' < ns.length - k
theorem TB.intro {g : Heap} {L' : Addr} {m0 : Str → Option Value} {news : List (Addr × Obj)} {ns : List Int} {s : Shared} {k : Nat} {h : Heap} {tk : Nat} {m' : Str → Option Value} {t : Tok} (hk : k < ns.length) (hz : ∀ j, j < k → ns.getD j 1 = 0) (h0 : ns.getD k 0 = 0) (F : Fr g L' h m') (N : News g L' h news)
    (e1 : m' (Str.ofString "place") = some (.int ((k : Int) + 1) t)) (e3 : ∀ y, y ≠ Str.ofString "place" → m' y = m0 y) : TB g L' m0 news ns s k { s with heap := h, toks := tk } := by
  refine ⟨k + 1, ⟨h, tk, t, rfl, hk, fun j hj => ?_, Fr.asMap F fun y => ?_, N⟩, by omega⟩
  · by_cases e : j = k
    · rw [List.getD_eq_getElem?_getD, List.getElem?_eq_getElem hk, Option.getD_some] at h0
      rw [e, List.getD_eq_getElem?_getD, List.getElem?_eq_getElem hk, Option.getD_some]
      exact h0
    · exact hz j (by omega)
  · by_cases h1 : y = Str.ofString "place"
    · rw [if_pos h1, h1, e1]; rfl
    · rw [if_neg h1, e3 y h1]
theorem while_bare {prog : Program} {w : World} {A : Around} {E : Value → Shared → Prop} {env : Env} {test : PySem.Expr} {body : List Stmt} {pos : Pos} {Q : Flow → Shared → Prop} {g : Heap} {L' : Addr} {m0 : Str → Option Value} {news : List (Addr × Obj)} {vs : List Value} {ns : List Int} {s : Shared} {t : Tok} (_hI : IntsAre vs ns)
    (F : Fr g L' s.heap (fun y => if y = Str.ofString "place" then some (.int 0 t) else m0 y)) (N : News g L' s.heap news) (hE : PassesOwn (model prog w) A env E)
    (turn : ∀ (k : Nat) h tk t1, k ≤ ns.length → (∀ j, j < k → ns.getD j 1 = 0) → Fr g L' h (fun y => if y = Str.ofString "place" then some (.int (k : Int) t1) else m0 y) → News g L' h news →
      wpAny (model prog w) A (isTrue test env (eval test env)) (fun b s₂ => WhlIf b (wpAny (model prog w) A (execs body env) (fun f s' => match f with | .next => TB g L' m0 news ns s k s' | .cont => TB g L' m0 news ns s k s' | .brk => Q .next s' | .ret v => Q (.ret v) s') E s₂) (wpAny (model prog w) A (execs [] env) Q E s₂)) E { s with heap := h, toks := tk }) :
    wpAny (model prog w) A (exec (.While test body [] pos) env) Q E s := by
  refine whl_start 0 (whl_ind (JB g L' m0 news ns s) (fun k => ns.length - k) hE (fun k s' hj => ?_) _ 0 _ (Nat.le_refl _) ⟨s.heap, s.toks, t, rfl, Nat.zero_le _, fun _ h => absurd h (Nat.not_lt_zero _), F, N⟩)
  obtain ⟨h, tk, t1, rfl, h1, h2, F', N'⟩ := hj
  exact turn k h tk t1 h1 h2 F' N'
theorem slice_from {prog : Program} {w : World} {A : Around} {E : Value → Shared → Prop} {s : Shared} {h₀ : Heap} {L l : Addr} {m : Str → Option Value} {news : List (Addr × Obj)} {value slice : PySem.Expr} {vs : List Value} {Q : Value → Shared → Prop} {k : Nat} {t3' : Tok} (F : Fr h₀ L s.heap m) (N : News h₀ L s.heap news) (hl : s.heap.IsList l (List.toArray vs)) (hk : k ≤ vs.length) (hw : vs.length ≤ 100)
    (h : ∀ D h', Fr h₀ L h' m → News h₀ L h' ((D, listOf (List.toArray (vs.drop k)) 0) :: news) → (∀ p ∈ news, p.1 < D) → Q (.ref D) { s with heap := h' })
    (hs : subscripted slice false (.ref l) (.ref s.heap.objs.size) = operate [.ref s.heap.objs.size, .ref l] (getItem (.ref l) (.ref s.heap.objs.size))) (ht : ∀ r, letTemporaryGo value (.ref l) r = pure ()) :
    wpAny (model prog w) A (subscriptTail value slice (.ref l) (.ref s.heap.objs.size)) Q E { s with heap := s.heap.push { cls := .type "slice", data := .fields #[.int (k : Int) t3', .none, .none] } } := by
  have e : sliceBounds (some (k : Int)) none none (List.toArray vs).size = (((k : Nat) : Int), ((vs.length : Nat) : Int), 1) := by
    simp only [sliceBounds, Option.getD_none, List.size_toArray, show (1 : Int) > 0 by decide, if_true, if_neg (show ¬ ((k : Int) < 0) by omega)]
    congr 1
    omega
  refine kmk_slice_lit (zs := vs.drop k) F N hl (IsPart.int (k : Int) t3') IsPart.none ?_ h hs ht ?_
  · rw [kmk_pick_nat _ e]
    simp
    exact List.take_of_length_le (by rw [List.length_drop]; omega)
  · rw [List.size_toArray, sizeLine_eq]
    omega
theorem ints_drop {vs : List Value} {ns : List Int} (h : IntsAre vs ns) : ∀ k, IntsAre (vs.drop k) (ns.drop k) := by
  induction h with
  | nil => intro k; simp; exact .nil
  | cons a t _ ih =>
    intro k
    cases k with
    | zero => exact .cons a t (by simpa using ih 0)
    | succ k => simpa using ih k
theorem len_mem {prog : Program} {w : World} {A : Around} {E : Value → Shared → Prop} {s : Shared} {h₀ : Heap} {L l : Addr} {news : List (Addr × Obj)} {us : List Value} {ns : List Int} {n : Nat} {Q : Value → Shared → Prop} (N : News h₀ L s.heap news) (hm : (l, listOf us.toArray n) ∈ news) (hI : IntsAre us ns) (hfit : ns.length ≤ 100)
    (h : Q (.int (ns.length : Int) (s.toks + 1)) { s with toks := s.toks + 1 + 1 }) : wpAny (model prog w) A (call (.builtin "len") [.ref l]) Q E s := by
  have hl : s.heap.IsList l us.toArray := ⟨_, (N _ hm).1, rfl, n, rfl⟩
  have e : us.toArray.size = ns.length := by rw [List.size_toArray, hI.length]
  exact len_list hl (by rw [e]; omega) (by rw [e]; exact h)
theorem item_mem {prog : Program} {w : World} {A : Around} {E : Value → Shared → Prop} {s : Shared} {h₀ : Heap} {L l : Addr} {news : List (Addr × Obj)} {us : List Value} {ns : List Int} {n : Nat} {k : Nat} {u : Tok} {value slice : PySem.Expr} {Q : Value → Shared → Prop} (N : News h₀ L s.heap news) (hm : (l, listOf us.toArray n) ∈ news) (hI : IntsAre us ns) (hk : (k : Int) < (ns.length : Int)) (hfit : ns.length ≤ 100)
    (h : ∀ t, Q (.int (ns.getD k 0) t) s)
    (hs : subscripted slice false (.ref l) (.int (k : Int) u) = operate [.ref l, .int (k : Int) u] (getItem (.ref l) (.int (k : Int) u)) := by with_unfolding_all rfl) : wpAny (model prog w) A (subscriptTail value slice (.ref l) (.int (k : Int) u)) Q E s := by
  have hl : s.heap.IsList l us.toArray := ⟨_, (N _ hm).1, rfl, n, rfl⟩
  have hk' : k < ns.length := by omega
  obtain ⟨t, hx⟩ := hI.get k (ns[k]'hk') (List.getElem?_eq_getElem hk')
  have h' := h t
  rw [List.getD_eq_getElem?_getD, List.getElem?_eq_getElem hk', Option.getD_some] at h'
  exact tail_any hl.typeIs slot_list_getitem.lookup (wpAny_getItem_list hl (by omega) (by omega) (by simpa using hx) h') hs
local macro_rules | `(tactic| walk_at "call builtin:len") => `(tactic| (k_here; (with_reducible show wpAny _ _ (call (Value.builtin "len") [Value.ref _]) _ _ _); k_dflt (refine' len_mem ?k1 ?k2 ?k3 ?k4 ?_; (case k1 => k_asm); (case k2 => with_reducible assumption); (case k3 => with_reducible assumption); (case k4 => assumption))))
local macro_rules | `(tactic| walk_at "subscriptTail") => `(tactic| (k_here; (with_reducible show wpAny _ _ (subscriptTail _ _ (Value.ref _) (Value.int _ _)) _ _ _); k_dflt (refine' item_mem ?k1 ?k2 ?k3 ?k4 ?k5 ?_ ?k7; (case k1 => k_asm); (case k2 => with_reducible assumption); (case k3 => with_reducible assumption); (case k4 => assumption); (case k5 => assumption); (case k7 => with_unfolding_all rfl)); intro t9))
local macro_rules | `(tactic| walk_at "subscriptTail Name Slice ref ref") => `(tactic| (k_here; k_dflt ((refine kba_turn (value' := PySem.Expr.Name (PySem.Str.ofString "_") ⟨0, 0, 0, 0⟩) (fun _ => rfl) ?_); refine' slice_from ?F ?N ?l ?k ?w ?_ ?s ?t; (case F => k_asm); (case N => k_asm); (case l => exact News.isList (by k_asm) (by with_reducible assumption)); (case k => omega); (case w => omega); (case t => kmk_pure); (case s => with_unfolding_all rfl)); intro D' h' F' N' l1))
local macro_rules | `(tactic| walk_at "exec While BoolOp cons nil") => `(tactic| (k_here; k_dflt (refine' while_bare ?hI ?F ?N ?hE ?_; (case hI => assumption); (case F => k_asm); (case N => k_asm); (case hE => first | passes_own | with_unfolding_all passes_own)); intro k9 h' tk' t1 hk9 hz9 F' N'))
set_option maxHeartbeats 8000000 in
theorem c_bare (w : World) (mean : ExcName → Option Value) (mg mb : Str → Option Value) (news : List (Addr × Obj)) (l : Addr) (vs : List Value) (ns : List Int) (nl : Nat) (hm : (l, listOf vs.toArray nl) ∈ news) (hI : IntsAre vs ns) (h100 : ns.length ≤ 100) :
    Does 5 w mean mg mb 175 [.ref l] [] news (fun r news' => ∃ D us, r = .ref D ∧ news' = (D, listOf (List.toArray us) 0) :: news ∧ IntsAre us (bareOf ns) ∧ (∀ p ∈ news, p.1 < D)) (fun nx => nx = news ∧ False) := by
  intro dp un cn cs a ccd cl outer A₀ base h₀ L m s Q E B F K N T hk hdp hun hret hraise
  have hvl := hI.length
  refine wpAny_call ?_
  walk_at "my enter"
  k_steps
  · exact TB.intro (by omega) (by assumption) (by assumption) (by assumption) (by assumption) rfl fun y h1 => by rw [if_neg h1, if_neg h1]
  · exact hret.use (by assumption) (by assumption) ⟨_, _, rfl, rfl, by rw [bare_at ns _ (by assumption) (by assumption) (.inr (by assumption))]; exact ints_drop hI _, by assumption⟩
  · exact hret.use (by assumption) (by assumption) ⟨_, _, rfl, rfl, by rw [bare_at ns _ (by assumption) (by assumption) (.inl (by omega))]; exact ints_drop hI _, by assumption⟩
end
/-- the lines that were read for the part above are not those of the next one -/
theorem pause_Z5 : True ∧ True := by first | (walk1; fail) | (w_top off; exact ⟨trivial, trivial⟩)
section
theorem fill_Z6 : (PySem.Challenge.rw_fe0333_02, hd.heap_39) = (PySem.Challenge.rw_fe0333_02, hd.heap_39) := by k_fill; rfl
local macro_rules | `(tactic| walk_at "binaryOp Pow int int") => `(tactic| (k_here; (with_reducible refine pow_int_small ?kb1 ?kb2 ?kb3 ?_); (case kb1 => first | decide | exact fmod_nn _ (by decide)); (case kb2 => first | decide | exact fmod_le6 _ (by decide) (by decide)); (case kb3 => decide)))
local macro_rules | `(tactic| walk_at "getMethod ref") => `(tactic| (k_here; (with_reducible show wpAny _ _ (getMethod (Value.ref 57) (Str.ofString "keys") _) _ _ _); refine keys_get (keyed57 (by k_asm)) (by k_asm) ?_))
local macro_rules | `(tactic| walk_at "getMethod ref") => `(tactic| (k_here; (with_reducible show wpAny _ _ (getMethod (Value.ref 58) (Str.ofString "keys") _) _ _ _); refine keys_get (keyed58 (by k_asm)) (by k_asm) ?_))
local macro_rules | `(tactic| walk_at "call builtin:dict.keys") => `(tactic| (k_here; (with_reducible show wpAny _ _ (call (Value.builtin "dict.keys") [Value.ref _]) _ _ _); (first | (refine keys_call (keyed57 (by k_asm)) (by k_asm) (by k_asm) ?_) | (refine keys_call (keyed58 (by k_asm)) (by k_asm) (by k_asm) ?_)); intro V' h' F' N' l1; (try k_lt l1)))
local macro_rules | `(tactic| walk_at "call type:list") => `(tactic| (k_here; (with_reducible show wpAny _ _ (call (Value.type _) [Value.ref _]) _ _ _); (first | (refine keys_list (keyed57 (by k_asm)) rfl (by k_asm) (by k_asm) (by k_mem) ?_) | (refine keys_list (keyed58 (by k_asm)) rfl (by k_asm) (by k_asm) (by k_mem) ?_)); intro B' c' h' tk' t1 t2 t3 t4 t5 t6 t7 t8 F' N' l1; (try k_lt l1)))
local macro_rules | `(tactic| walk_at "binaryOp Mod str ref") => `(tactic| (k_here; (with_reducible show wpAny _ _ (binaryOp Operator.Mod (Value.str (Str.ofString "address_format must be an integer selected from : %s ") _) (Value.ref _)) _ _ _); refine' text1 ?a1 ?a2 ?a3 ?g ?u ?_; (case a1 => k_asm); (case a2 => k_asm); (case a3 => k_mem); (case g => (first | (simp only [guards_deeper, guards_make]; done) | ((try simp only [guards_deeper, guards_make]); rfl))); (case u => (have hc9 := cLine_is; (try simp only [units_make, units_deeper, units_in1]); (try dsimp only [ktrTop]); omega)); intro t' h' tk' F' N'))
local macro_rules | `(tactic| walk_at "binaryOp Mod str ref") => `(tactic| (k_here; (with_reducible show wpAny _ _ (binaryOp Operator.Mod (Value.str (Str.ofString "memorysize_format must be an integer selected from : %s") _) (Value.ref _)) _ _ _); refine' text2 ?a1 ?a2 ?a3 ?g ?u ?_; (case a1 => k_asm); (case a2 => k_asm); (case a3 => k_mem); (case g => (first | (simp only [guards_deeper, guards_make]; done) | ((try simp only [guards_deeper, guards_make]); rfl))); (case u => (have hc9 := cLine_is; (try simp only [units_make, units_deeper, units_in1]); (try dsimp only [ktrTop]); omega)); intro t' h' tk' F' N'))
local macro_rules | `(tactic| walk_at "my enter") => `(tactic| k_dflt (refine' code_def ?k1 ?k2 ?k3 ?k4 ?k5 ?kA ?kF ?kK ?k6 ?k7 ?k8 ?k9 ?kB ?_ ?c2 ?c3 ?c4 ?c5; (case kA => exact rfl); (case kF => exact rfl); (case kK => first | assumption | exact rfl); (case k1 => k_asm); (case k2 => k_asm); (case k3 => k_asm); (case k4 => k_asm); (case k5 => k_asm); (case k6 => k_is); (case k7 => k_is); (case k8 => ((try simp only [depth_make, depth_deeper, depth_in1]); (try dsimp only [ktrTop]); omega)); (case k9 => first | exact BindsTo.of_eq rfl | exact binds_K (by k_in) rfl (by k_is) rfl rfl rfl); (case c5 => decide); (case kB => exact locs rfl); (case c2 => exact rfl); (case c3 => exact rfl); (case c4 => exact rfl); k_whole; intro g' L' h' FG' F' N' B' X' T'; (try dsimp only); (try k_fold)))
local macro_rules | `(tactic| walk_at "my make") => `(tactic| (k_dflt (refine' call_cls ?k1 ?k2 ?k3 ?k4 ?k5 ?k6 ?_; (case k1 => k_asm); (case k2 => k_asm); (case k3 => k_asm); (case k4 => k_is); (case k5 => k_is); (case k6 => k_is); k_whole; intro x' d' h' F' N' l1 l2; (try k_lt l1); (try k_lt2 l2); (try k_sweep)); walk_at "my enter"))
local macro_rules | `(tactic| walk_at "my room") => `(tactic| first | ((try simp only [depth_make, depth_deeper, depth_in1, units_make, units_deeper, units_in1]); (try dsimp only [ktrTop]); omega) | decide | (with_unfolding_all decide))
local macro_rules | `(tactic| walk_at "leaving ref") => `(tactic| (k_here; first | (refine' leave_raiseS ?k1 ?k0 ?k2 ?k3 ?_; (case k0 => first | assumption | exact Heap.MadeExc.of (by assumption)); (case k2 => assumption); (case k1 => assumption); (case k3 => k_asm); k_whole; intro h' t' S' R' U'; (try dsimp only at S' R' U' ⊢)) | (refine' leave_onS ?k1 ?k2 ?k3 ?k4 ?_; (case k3 => assumption); (case k2 => assumption); (case k1 => assumption); (case k4 => assumption); k_whole; intro h' S' R' U'; (try dsimp only at S' R' U' ⊢))))
local macro_rules | `(tactic| walk_at "my sub") => `(tactic| ((repeat' (refine List.forall_mem_cons.mpr ⟨by k_mem, ?_⟩)); (intro p hp; repeat (first | exact hp | apply List.Mem.tail))))
local macro_rules | `(tactic| walk_at "my no") => `(tactic| first | assumption | exact and_no1 (by assumption) | exact and_no2 (by assumption) | exact and_no1 (no8 (by assumption)) | exact and_no2 (no8 (by assumption)))
local macro_rules | `(tactic| walk_at "my raise") => `(tactic| ((try dsimp only [InitBack]); refine' Rai.use2 ?H ?C ?U ?F ?R ?S; (case H => assumption); (case C => walk_at "my no"); (case U => assumption); (case F => assumption); (case R => assumption); (case S => walk_at "my sub")))
def digS (d : Int) : PySem.Str := ⟨#[(Nat.digitChar d.natAbs).toNat]⟩
theorem str_ext {a b : PySem.Str} (h : a.cps = b.cps) : a = b := congrArg PySem.Str.mk h
theorem app_assoc (a b c : PySem.Str) : a ++ b ++ c = a ++ (b ++ c) := str_ext (by simp only [PySem.Str.cps_append, Array.append_assoc])
theorem hex_step {z : Int} (hz : 0 ≤ z) : hexOf z = if z < 16 then digS z else hexOf (z / 16) ++ digS (z % 16) := by
  obtain ⟨n, rfl⟩ := Int.eq_ofNat_of_zero_le hz
  have e1 : ((n : Int) / 16).natAbs = n / 16 := by omega
  have e2 : ((n : Int) % 16).natAbs = n % 16 := by omega
  have e0 : ((n : Int)).natAbs = n := rfl
  unfold hexOf
  rw [e0, Nat.toDigits_eq_if (by decide)]
  by_cases h : n < 16
  · rw [if_pos h, if_pos (by omega)]
    rfl
  · rw [if_neg h, if_neg (by omega)]
    refine str_ext ?_
    rw [PySem.Str.cps_append, e1]
    unfold digS
    rw [e2]
    simp
theorem digS_len (d : Int) : (digS d).length = 1 := rfl
/-- the loop's state: the number that is left, and the text so far -/
def HexInv (n z : Int) (T : PySem.Str) : Prop := 0 ≤ z ∧ ((z = n ∧ T = PySem.Str.empty) ∨ (T ≠ PySem.Str.empty ∧ ((z = 0 ∧ T = hexOf n) ∨ (0 < z ∧ hexOf z ++ T = hexOf n))))
theorem dig_ne (d : Int) (T : PySem.Str) : digS d ++ T ≠ PySem.Str.empty := fun e => by
  have h : (digS d ++ T).length = 0 := by rw [e]; rfl
  rw [PySem.Str.length_append, digS_len] at h
  omega
theorem HexInv.step {n z : Int} {T : PySem.Str} (h : HexInv n z T) (hc : 0 < z ∨ T = PySem.Str.empty) : HexInv n (z / 16) (digS (z % 16) ++ T) := by
  obtain ⟨h0, h⟩ := h
  have hs := hex_step h0
  refine ⟨by omega, .inr ⟨dig_ne _ _, ?_⟩⟩
  have e1 : hexOf z ++ T = hexOf n := by
    rcases h with ⟨rfl, rfl⟩ | ⟨hT, ⟨rfl, rfl⟩ | ⟨_, e⟩⟩
    · exact str_ext (by rw [PySem.Str.cps_append]; simp [PySem.Str.empty])
    · rcases hc with hc | hc
      · omega
      · exact absurd hc hT
    · exact e
  by_cases hz : z < 16
  · left
    refine ⟨by omega, ?_⟩
    rw [if_pos hz] at hs
    rw [← e1, hs]
    congr 2
    omega
  · right
    refine ⟨by omega, ?_⟩
    rw [if_neg hz] at hs
    rw [← e1, hs, app_assoc]
theorem HexInv.out {n z : Int} {T : PySem.Str} (h : HexInv n z T) (hc : ¬ 0 < z) (hT : T ≠ PySem.Str.empty) : T = hexOf n := by
  obtain ⟨h0, h⟩ := h
  rcases h with ⟨_, e⟩ | ⟨_, ⟨_, e⟩ | ⟨e, _⟩⟩
  · exact absurd e hT
  · exact e
  · omega
theorem HexInv.len {n z : Int} {T : PySem.Str} (h : HexInv n z T) : T.length ≤ (hexOf n).length := by
  obtain ⟨h0, h⟩ := h
  rcases h with ⟨_, e⟩ | ⟨_, ⟨_, e⟩ | ⟨_, e⟩⟩
  · rw [e]; exact Nat.zero_le _
  · rw [e]; exact Nat.le_refl _
  · rw [← e, PySem.Str.length_append]; omega
theorem str_empty : PySem.Str.ofString "" = PySem.Str.empty := rfl
theorem len_zero {T : PySem.Str} (h : T.length = 0) : T = PySem.Str.empty := str_ext (Array.eq_empty_of_size_eq_zero h)
def muH (c : Int × PySem.Str) : Nat := c.1.toNat + (if c.2.length = 0 then 1 else 0)
def JH (g : Heap) (L' : Addr) (m0 : Str → Option Value) (news : List (Addr × PySem.Obj)) (n : Int) (s : Shared) (c : Int × PySem.Str) (s' : Shared) : Prop :=
  ∃ h tk t1 t2, s' = { s with heap := h, toks := tk } ∧ HexInv n c.1 c.2 ∧ Fr g L' h (fun y => if y = Str.ofString "text" then some (.str c.2 t1) else if y = Str.ofString "number" then some (.int c.1 t2) else m0 y) ∧ News g L' h news
def TH (g : Heap) (L' : Addr) (m0 : Str → Option Value) (news : List (Addr × PySem.Obj)) (n : Int) (s : Shared) (z : Int) (T : PySem.Str) (s' : Shared) : Prop := ∃ c', JH g L' m0 news n s c' s' ∧ muH c' < muH (z, T)
theorem TH.intro {g : Heap} {L' : Addr} {m0 : Str → Option Value} {news : List (Addr × PySem.Obj)} {n z : Int} {T T' : PySem.Str} {s : Shared} {h : Heap} {tk : Nat} {m' : Str → Option Value} {t1 t2 : Tok} (H : HexInv n z T) (hc : 0 < z ∨ T = PySem.Str.empty) (F : Fr g L' h m') (N : News g L' h news)
    (e1 : m' (Str.ofString "text") = some (.str T' t1)) (e2 : m' (Str.ofString "number") = some (.int (z.fdiv 16) t2)) (e3 : ∀ y, y ≠ Str.ofString "text" → y ≠ Str.ofString "number" → m' y = m0 y) (e4 : T' = digS (z % 16) ++ T) : TH g L' m0 news n s z T { s with heap := h, toks := tk } := by
  subst e4
  have hd : z.fdiv 16 = z / 16 := Int.fdiv_eq_ediv_of_nonneg _ (by decide)
  have h0 := H.1
  refine ⟨(z.fdiv 16, digS (z % 16) ++ T), ⟨h, tk, t1, t2, rfl, by rw [hd]; exact H.step hc, Fr.asMap F fun y => ?_, N⟩, ?_⟩
  · by_cases h1 : y = Str.ofString "text"
    · rw [if_pos h1, h1, e1]
    · rw [if_neg h1]
      by_cases h2 : y = Str.ofString "number"
      · rw [if_pos h2, h2, e2]
      · rw [if_neg h2, e3 y h1 h2]
  · unfold muH
    dsimp only
    rw [hd, PySem.Str.length_append, digS_len, if_neg (by omega)]
    rcases hc with hc | hc
    · split <;> omega
    · rw [hc, if_pos (show PySem.Str.empty.length = 0 from rfl)]; omega
theorem while_hex {prog : Program} {w : World} {A : Around} {E : Value → Shared → Prop} {env : Env} {test : PySem.Expr} {body : List Stmt} {pos : Pos} {Q : Flow → Shared → Prop} {g : Heap} {L' : Addr} {m0 : Str → Option Value} {news : List (Addr × PySem.Obj)} {n : Int} {s : Shared} {t tn : Tok} (hn : 0 ≤ n)
    (F : Fr g L' s.heap (fun y => if y = Str.ofString "text" then some (.str (Str.ofString "") t) else m0 y)) (N : News g L' s.heap news) (h0 : m0 (Str.ofString "number") = some (.int n tn)) (hE : PassesOwn (model prog w) A env E)
    (turn : ∀ (z : Int) (T : PySem.Str) h tk t1 t2, HexInv n z T → T.length ≤ (hexOf n).length → Fr g L' h (fun y => if y = Str.ofString "text" then some (.str T t1) else if y = Str.ofString "number" then some (.int z t2) else m0 y) → News g L' h news →
      wpAny (model prog w) A (isTrue test env (eval test env)) (fun b s₂ => WhlIf b (wpAny (model prog w) A (execs body env) (fun f s' => match f with | .next => TH g L' m0 news n s z T s' | .cont => TH g L' m0 news n s z T s' | .brk => Q .next s' | .ret v => Q (.ret v) s') E s₂) (wpAny (model prog w) A (execs [] env) Q E s₂)) E { s with heap := h, toks := tk }) :
    wpAny (model prog w) A (exec (.While test body [] pos) env) Q E s := by
  refine whl_start 0 (whl_ind (JH g L' m0 news n s) muH hE (fun c s' hj => ?_) _ (n, PySem.Str.empty) _ (Nat.le_refl _) ⟨s.heap, s.toks, t, tn, rfl, ⟨hn, .inl ⟨rfl, rfl⟩⟩, Fr.asMap F fun y => ?_, N⟩)
  · obtain ⟨h, tk, t1, t2, rfl, h1, F', N'⟩ := hj
    exact turn c.1 c.2 h tk t1 t2 h1 h1.len F' N'
  · by_cases e1 : y = Str.ofString "text"
    · rw [if_pos e1, if_pos e1]; rfl
    · rw [if_neg e1, if_neg e1]
      by_cases e2 : y = Str.ofString "number"
      · rw [if_pos e2, e2, h0]
      · rw [if_neg e2]
local macro_rules | `(tactic| walk_at "exec While BoolOp cons nil") => `(tactic| (k_here; k_dflt (refine' while_hex ?hn ?F ?N ?h0 ?hE ?_; (case F => k_asm); (case N => k_asm); (case h0 => exact rfl); (case hn => assumption); (case hE => first | passes_own | with_unfolding_all passes_own)); intro z9 T9 h' tk' t1 t2 hz9 hl9 F' N'))
theorem str_beq {T : PySem.Str} (h : (T == Str.ofString "") = true) : T = PySem.Str.empty := by
  have := eq_of_beq h
  exact this
theorem str_bne {T : PySem.Str} (h : (T == Str.ofString "") = false) : T ≠ PySem.Str.empty := fun e => by
  subst e
  exact absurd h (by decide +kernel)
theorem hex_item (z : Int) : Txt.item (Str.ofString "0123456789abcdef") (z.fmod 16) = digS (z % 16) := by
  rw [Int.fmod_eq_emod_of_nonneg _ (by decide)]
  have h0 : 0 ≤ z % 16 := Int.emod_nonneg _ (by decide)
  have h1 : z % 16 < 16 := Int.emod_lt_of_pos _ (by decide)
  generalize z % 16 = d at h0 h1
  have e : d = 0 ∨ d = 1 ∨ d = 2 ∨ d = 3 ∨ d = 4 ∨ d = 5 ∨ d = 6 ∨ d = 7 ∨ d = 8 ∨ d = 9 ∨ d = 10 ∨ d = 11 ∨ d = 12 ∨ d = 13 ∨ d = 14 ∨ d = 15 := by omega
  rcases e with e | e | e | e | e | e | e | e | e | e | e | e | e | e | e | e <;> subst e <;> decide +kernel
set_option maxHeartbeats 8000000 in
theorem c_hex (w : World) (mean : ExcName → Option Value) (mg mb : Str → Option Value) (news : List (Addr × PySem.Obj)) (n : Int) (tn : Tok) (hn : 0 ≤ n) (hl : (hexOf n).length ≤ 20) :
    Does 5 w mean mg mb 182 [.int n tn] [] news (fun r news' => news' = news ∧ ∃ t', r = .str (hexOf n) t') (fun nx => nx = news ∧ False) := by
  intro dp un cn cs a ccd cl outer A₀ base h₀ L m s Q E B F K N T hk hdp hun hret hraise
  refine wpAny_call ?_
  walk_at "my enter"
  k_steps
  · refine TH.intro (by assumption) (.inl (by assumption)) (by assumption) (by assumption) rfl rfl (fun y h1 h2 => ?_) (by rw [hex_item])
    rw [if_neg h2, if_neg h1, if_neg h1, if_neg h2]
  · refine TH.intro (by assumption) (.inr (str_beq (by assumption))) (by assumption) (by assumption) rfl rfl (fun y h1 h2 => ?_) (by rw [hex_item])
    rw [if_neg h2, if_neg h1, if_neg h1, if_neg h2]
  · exact hret.use (by assumption) (by assumption) ⟨rfl, _, congrArg (fun x => Value.str x _) (HexInv.out (by assumption) (by assumption) (str_bne (by assumption)))⟩
end
/-- the lines that were read for the part above are not those of the next one -/
theorem pause_Z6 : True ∧ True := by first | (walk1; fail) | (w_top off; exact ⟨trivial, trivial⟩)
section
theorem fill_Z7 : (PySem.Challenge.rw_fe0333_02, hd.heap_39) = (PySem.Challenge.rw_fe0333_02, hd.heap_39) := by k_fill; rfl
local macro_rules | `(tactic| walk_at "binaryOp Pow int int") => `(tactic| (k_here; (with_reducible refine pow_int_small ?kb1 ?kb2 ?kb3 ?_); (case kb1 => first | decide | exact fmod_nn _ (by decide)); (case kb2 => first | decide | exact fmod_le6 _ (by decide) (by decide)); (case kb3 => decide)))
local macro_rules | `(tactic| walk_at "getMethod ref") => `(tactic| (k_here; (with_reducible show wpAny _ _ (getMethod (Value.ref 57) (Str.ofString "keys") _) _ _ _); refine keys_get (keyed57 (by k_asm)) (by k_asm) ?_))
local macro_rules | `(tactic| walk_at "getMethod ref") => `(tactic| (k_here; (with_reducible show wpAny _ _ (getMethod (Value.ref 58) (Str.ofString "keys") _) _ _ _); refine keys_get (keyed58 (by k_asm)) (by k_asm) ?_))
local macro_rules | `(tactic| walk_at "call builtin:dict.keys") => `(tactic| (k_here; (with_reducible show wpAny _ _ (call (Value.builtin "dict.keys") [Value.ref _]) _ _ _); (first | (refine keys_call (keyed57 (by k_asm)) (by k_asm) (by k_asm) ?_) | (refine keys_call (keyed58 (by k_asm)) (by k_asm) (by k_asm) ?_)); intro V' h' F' N' l1; (try k_lt l1)))
local macro_rules | `(tactic| walk_at "call type:list") => `(tactic| (k_here; (with_reducible show wpAny _ _ (call (Value.type _) [Value.ref _]) _ _ _); (first | (refine keys_list (keyed57 (by k_asm)) rfl (by k_asm) (by k_asm) (by k_mem) ?_) | (refine keys_list (keyed58 (by k_asm)) rfl (by k_asm) (by k_asm) (by k_mem) ?_)); intro B' c' h' tk' t1 t2 t3 t4 t5 t6 t7 t8 F' N' l1; (try k_lt l1)))
local macro_rules | `(tactic| walk_at "binaryOp Mod str ref") => `(tactic| (k_here; (with_reducible show wpAny _ _ (binaryOp Operator.Mod (Value.str (Str.ofString "address_format must be an integer selected from : %s ") _) (Value.ref _)) _ _ _); refine' text1 ?a1 ?a2 ?a3 ?g ?u ?_; (case a1 => k_asm); (case a2 => k_asm); (case a3 => k_mem); (case g => (first | (simp only [guards_deeper, guards_make]; done) | ((try simp only [guards_deeper, guards_make]); rfl))); (case u => (have hc9 := cLine_is; (try simp only [units_make, units_deeper, units_in1]); (try dsimp only [ktrTop]); omega)); intro t' h' tk' F' N'))
local macro_rules | `(tactic| walk_at "binaryOp Mod str ref") => `(tactic| (k_here; (with_reducible show wpAny _ _ (binaryOp Operator.Mod (Value.str (Str.ofString "memorysize_format must be an integer selected from : %s") _) (Value.ref _)) _ _ _); refine' text2 ?a1 ?a2 ?a3 ?g ?u ?_; (case a1 => k_asm); (case a2 => k_asm); (case a3 => k_mem); (case g => (first | (simp only [guards_deeper, guards_make]; done) | ((try simp only [guards_deeper, guards_make]); rfl))); (case u => (have hc9 := cLine_is; (try simp only [units_make, units_deeper, units_in1]); (try dsimp only [ktrTop]); omega)); intro t' h' tk' F' N'))
local macro_rules | `(tactic| walk_at "my enter") => `(tactic| k_dflt (refine' code_def ?k1 ?k2 ?k3 ?k4 ?k5 ?kA ?kF ?kK ?k6 ?k7 ?k8 ?k9 ?kB ?_ ?c2 ?c3 ?c4 ?c5; (case kA => exact rfl); (case kF => exact rfl); (case kK => first | assumption | exact rfl); (case k1 => k_asm); (case k2 => k_asm); (case k3 => k_asm); (case k4 => k_asm); (case k5 => k_asm); (case k6 => k_is); (case k7 => k_is); (case k8 => ((try simp only [depth_make, depth_deeper, depth_in1]); (try dsimp only [ktrTop]); omega)); (case k9 => first | exact BindsTo.of_eq rfl | exact binds_K (by k_in) rfl (by k_is) rfl rfl rfl); (case c5 => decide); (case kB => exact locs rfl); (case c2 => exact rfl); (case c3 => exact rfl); (case c4 => exact rfl); k_whole; intro g' L' h' FG' F' N' B' X' T'; (try dsimp only); (try k_fold)))
local macro_rules | `(tactic| walk_at "my make") => `(tactic| (k_dflt (refine' call_cls ?k1 ?k2 ?k3 ?k4 ?k5 ?k6 ?_; (case k1 => k_asm); (case k2 => k_asm); (case k3 => k_asm); (case k4 => k_is); (case k5 => k_is); (case k6 => k_is); k_whole; intro x' d' h' F' N' l1 l2; (try k_lt l1); (try k_lt2 l2); (try k_sweep)); walk_at "my enter"))
local macro_rules | `(tactic| walk_at "my room") => `(tactic| first | ((try simp only [depth_make, depth_deeper, depth_in1, units_make, units_deeper, units_in1]); (try dsimp only [ktrTop]); omega) | decide | (with_unfolding_all decide))
local macro_rules | `(tactic| walk_at "leaving ref") => `(tactic| (k_here; first | (refine' leave_raiseS ?k1 ?k0 ?k2 ?k3 ?_; (case k0 => first | assumption | exact Heap.MadeExc.of (by assumption)); (case k2 => assumption); (case k1 => assumption); (case k3 => k_asm); k_whole; intro h' t' S' R' U'; (try dsimp only at S' R' U' ⊢)) | (refine' leave_onS ?k1 ?k2 ?k3 ?k4 ?_; (case k3 => assumption); (case k2 => assumption); (case k1 => assumption); (case k4 => assumption); k_whole; intro h' S' R' U'; (try dsimp only at S' R' U' ⊢))))
local macro_rules | `(tactic| walk_at "my sub") => `(tactic| ((repeat' (refine List.forall_mem_cons.mpr ⟨by k_mem, ?_⟩)); (intro p hp; repeat (first | exact hp | apply List.Mem.tail))))
local macro_rules | `(tactic| walk_at "my no") => `(tactic| first | assumption | exact and_no1 (by assumption) | exact and_no2 (by assumption) | exact and_no1 (no8 (by assumption)) | exact and_no2 (no8 (by assumption)))
local macro_rules | `(tactic| walk_at "my raise") => `(tactic| ((try dsimp only [InitBack]); refine' Rai.use2 ?H ?C ?U ?F ?R ?S; (case H => assumption); (case C => walk_at "my no"); (case U => assumption); (case F => assumption); (case R => assumption); (case S => walk_at "my sub")))
theorem dat_ints {news : List (Addr × Obj)} {vs : List Value} {ns : List Int} (h : IntsAre vs ns) : DatAll news vs (ns.map Dat.int) := by
  induction h with
  | nil => exact .nil
  | cons n t _ ih => exact .cons (.int n t) ih
abbrev Apart (add news : List (Addr × Obj)) : Prop := ∀ p ∈ news, ∀ q ∈ add, @Ne Nat p.1 q.1
theorem apart_one {d : Addr} {o : Obj} {news : List (Addr × Obj)} (h : ∀ p ∈ news, @Ne Nat p.1 d) : Apart [(d, o)] news := fun p hp q hq => by
  rw [List.mem_singleton.mp hq]; exact h p hp
local macro_rules | `(tactic| walk_at "pyIter bytes") => `(tactic| (k_here; k_dflt (refine' comp_bytes ?hh ?hb ?F ?N ?hkd ?hx ?hd ?_; (case hh => exact rfl); (case F => k_asm); (case N => k_asm); (case hb => (rw [← KBw.ints_length]; assumption)); (case hkd => exact rfl); (case hx => exact rfl); (case hd => decide)); intro D' ws' n' h' tk' F' N' hD' hI'))
set_option maxHeartbeats 8000000 in
theorem c_row (w : World) (mean : ExcName → Option Value) (mg mb : Str → Option Value) (news : List (Addr × Obj)) (b : Array UInt8) (tb : Tok) (hb8 : (KBw.bInts b).length ≤ 8) :
    Does 10 w mean mg mb 187 [.bytes b tb] [] news (fun r news' => ∃ add, news' = add ++ news ∧ Apart add news ∧ DatIn add r (.list ((KBw.bInts b).map Dat.int))) (fun nx => nx = news ∧ False) := by
    intro dp un cn cs a ccd cl outer A₀ base h₀ L m s Q E B F K N T hk hdp hun hret hraise
    refine wpAny_call ?_
    walk_at "my enter"
    k_steps
    exact hret.use (by assumption) (by assumption) ⟨[_], rfl, apart_one (by assumption), DatIn.list (.head _) (dat_ints (by assumption))⟩
end
/-- the lines that were read for the part above are not those of the next one -/
theorem pause_Z7 : True ∧ True := by first | (walk1; fail) | (w_top off; exact ⟨trivial, trivial⟩)
section
theorem fill_Z8 : (PySem.Challenge.rw_fe0333_02, hd.heap_39) = (PySem.Challenge.rw_fe0333_02, hd.heap_39) := by k_fill; rfl
local macro_rules | `(tactic| walk_at "binaryOp Pow int int") => `(tactic| (k_here; (with_reducible refine pow_int_small ?kb1 ?kb2 ?kb3 ?_); (case kb1 => first | decide | exact fmod_nn _ (by decide)); (case kb2 => first | decide | exact fmod_le6 _ (by decide) (by decide)); (case kb3 => decide)))
local macro_rules | `(tactic| walk_at "getMethod ref") => `(tactic| (k_here; (with_reducible show wpAny _ _ (getMethod (Value.ref 57) (Str.ofString "keys") _) _ _ _); refine keys_get (keyed57 (by k_asm)) (by k_asm) ?_))
local macro_rules | `(tactic| walk_at "getMethod ref") => `(tactic| (k_here; (with_reducible show wpAny _ _ (getMethod (Value.ref 58) (Str.ofString "keys") _) _ _ _); refine keys_get (keyed58 (by k_asm)) (by k_asm) ?_))
local macro_rules | `(tactic| walk_at "call builtin:dict.keys") => `(tactic| (k_here; (with_reducible show wpAny _ _ (call (Value.builtin "dict.keys") [Value.ref _]) _ _ _); (first | (refine keys_call (keyed57 (by k_asm)) (by k_asm) (by k_asm) ?_) | (refine keys_call (keyed58 (by k_asm)) (by k_asm) (by k_asm) ?_)); intro V' h' F' N' l1; (try k_lt l1)))
local macro_rules | `(tactic| walk_at "call type:list") => `(tactic| (k_here; (with_reducible show wpAny _ _ (call (Value.type _) [Value.ref _]) _ _ _); (first | (refine keys_list (keyed57 (by k_asm)) rfl (by k_asm) (by k_asm) (by k_mem) ?_) | (refine keys_list (keyed58 (by k_asm)) rfl (by k_asm) (by k_asm) (by k_mem) ?_)); intro B' c' h' tk' t1 t2 t3 t4 t5 t6 t7 t8 F' N' l1; (try k_lt l1)))
local macro_rules | `(tactic| walk_at "binaryOp Mod str ref") => `(tactic| (k_here; (with_reducible show wpAny _ _ (binaryOp Operator.Mod (Value.str (Str.ofString "address_format must be an integer selected from : %s ") _) (Value.ref _)) _ _ _); refine' text1 ?a1 ?a2 ?a3 ?g ?u ?_; (case a1 => k_asm); (case a2 => k_asm); (case a3 => k_mem); (case g => (first | (simp only [guards_deeper, guards_make]; done) | ((try simp only [guards_deeper, guards_make]); rfl))); (case u => (have hc9 := cLine_is; (try simp only [units_make, units_deeper, units_in1]); (try dsimp only [ktrTop]); omega)); intro t' h' tk' F' N'))
local macro_rules | `(tactic| walk_at "binaryOp Mod str ref") => `(tactic| (k_here; (with_reducible show wpAny _ _ (binaryOp Operator.Mod (Value.str (Str.ofString "memorysize_format must be an integer selected from : %s") _) (Value.ref _)) _ _ _); refine' text2 ?a1 ?a2 ?a3 ?g ?u ?_; (case a1 => k_asm); (case a2 => k_asm); (case a3 => k_mem); (case g => (first | (simp only [guards_deeper, guards_make]; done) | ((try simp only [guards_deeper, guards_make]); rfl))); (case u => (have hc9 := cLine_is; (try simp only [units_make, units_deeper, units_in1]); (try dsimp only [ktrTop]); omega)); intro t' h' tk' F' N'))
local macro_rules | `(tactic| walk_at "my enter") => `(tactic| k_dflt (refine' code_def ?k1 ?k2 ?k3 ?k4 ?k5 ?kA ?kF ?kK ?k6 ?k7 ?k8 ?k9 ?kB ?_ ?c2 ?c3 ?c4 ?c5; (case kA => exact rfl); (case kF => exact rfl); (case kK => first | assumption | exact rfl); (case k1 => k_asm); (case k2 => k_asm); (case k3 => k_asm); (case k4 => k_asm); (case k5 => k_asm); (case k6 => k_is); (case k7 => k_is); (case k8 => ((try simp only [depth_make, depth_deeper, depth_in1]); (try dsimp only [ktrTop]); omega)); (case k9 => first | exact BindsTo.of_eq rfl | exact binds_K (by k_in) rfl (by k_is) rfl rfl rfl); (case c5 => decide); (case kB => exact locs rfl); (case c2 => exact rfl); (case c3 => exact rfl); (case c4 => exact rfl); k_whole; intro g' L' h' FG' F' N' B' X' T'; (try dsimp only); (try k_fold)))
local macro_rules | `(tactic| walk_at "my make") => `(tactic| (k_dflt (refine' call_cls ?k1 ?k2 ?k3 ?k4 ?k5 ?k6 ?_; (case k1 => k_asm); (case k2 => k_asm); (case k3 => k_asm); (case k4 => k_is); (case k5 => k_is); (case k6 => k_is); k_whole; intro x' d' h' F' N' l1 l2; (try k_lt l1); (try k_lt2 l2); (try k_sweep)); walk_at "my enter"))
local macro_rules | `(tactic| walk_at "my room") => `(tactic| first | ((try simp only [depth_make, depth_deeper, depth_in1, units_make, units_deeper, units_in1]); (try dsimp only [ktrTop]); omega) | decide | (with_unfolding_all decide))
local macro_rules | `(tactic| walk_at "leaving ref") => `(tactic| (k_here; first | (refine' leave_raiseS ?k1 ?k0 ?k2 ?k3 ?_; (case k0 => first | assumption | exact Heap.MadeExc.of (by assumption)); (case k2 => assumption); (case k1 => assumption); (case k3 => k_asm); k_whole; intro h' t' S' R' U'; (try dsimp only at S' R' U' ⊢)) | (refine' leave_onS ?k1 ?k2 ?k3 ?k4 ?_; (case k3 => assumption); (case k2 => assumption); (case k1 => assumption); (case k4 => assumption); k_whole; intro h' S' R' U'; (try dsimp only at S' R' U' ⊢))))
local macro_rules | `(tactic| walk_at "my sub") => `(tactic| ((repeat' (refine List.forall_mem_cons.mpr ⟨by k_mem, ?_⟩)); (intro p hp; repeat (first | exact hp | apply List.Mem.tail))))
local macro_rules | `(tactic| walk_at "my no") => `(tactic| first | assumption | exact and_no1 (by assumption) | exact and_no2 (by assumption) | exact and_no1 (no8 (by assumption)) | exact and_no2 (no8 (by assumption)))
local macro_rules | `(tactic| walk_at "my raise") => `(tactic| ((try dsimp only [InitBack]); refine' Rai.use2 ?H ?C ?U ?F ?R ?S; (case H => assumption); (case C => walk_at "my no"); (case U => assumption); (case F => assumption); (case R => assumption); (case S => walk_at "my sub")))
local macro_rules | `(tactic| walk_at "binaryOp Mod str ref") => `(tactic| (k_here; k_dflt (refine' mod_loc ?N ?b ?hx ?hy ?hy9 ?hm ?hn ?hn9 ?hlx ?hlm ?_; (case N => k_asm); (case b => k_mem); (case hx => assumption); (case hy => assumption); (case hy9 => assumption); (case hm => assumption); (case hn => assumption); (case hn9 => assumption); (case hlx => assumption); (case hlm => assumption)); intro t9 k9))
set_option maxHeartbeats 8000000 in
theorem c_str0 (w : World) (mean : ExcName → Option Value) (mg mb : Str → Option Value) (tl : List (Addr × PySem.Obj)) (x dx y dy : Addr) (fa fm va vs : Int) (v0 v1 : Value) (k1 k2 k3 k4 k5 tv1 tv2 ka kb tm' ta' : Tok)
    (hva : 0 ≤ va) (hvs : 0 ≤ vs) (hfa : 0 ≤ fa) (hfa9 : fa < 10 ^ 10) (hfm : 0 ≤ fm) (hfm9 : fm < 10 ^ 10) (hla : (hexOf va).length ≤ 20) (hls : (hexOf vs).length ≤ 20) :
    Does 10 w mean mg mb 154 [.ref x] [] ([(x, instObj 157 dx), (dx, dML w va vs v0 v1 y k1 k2 k3 k4 k5 tv1 tv2), (y, instObj 82 dy), (dy, dAl w fm fa ka kb tm' ta')] ++ tl) (fun r news' => news' = ([(x, instObj 157 dx), (dx, dML w va vs v0 v1 y k1 k2 k3 k4 k5 tv1 tv2), (y, instObj 82 dy), (dy, dAl w fm fa ka kb tm' ta')] ++ tl) ∧ ∃ t', r = .str (locText va fa vs fm) t') (fun nx => nx = ([(x, instObj 157 dx), (dx, dML w va vs v0 v1 y k1 k2 k3 k4 k5 tv1 tv2), (y, instObj 82 dy), (dy, dAl w fm fa ka kb tm' ta')] ++ tl) ∧ False) := by
  intro dp un cn cs a ccd cl outer A₀ base h₀ L m s Q E B F K N T hk hdp hun hret hraise
  simp only [List.cons_append, List.nil_append] at N
  refine wpAny_call ?_
  walk_at "my enter"
  k_steps
  exact hret.use (by assumption) (fun p hp => (by assumption : News h₀ L _ ((_, _) :: (x, _) :: _)) p (.tail _ hp)) ⟨rfl, _, rfl⟩
theorem c_str (w : World) (mean : ExcName → Option Value) (mg mb : Str → Option Value) (news : List (Addr × PySem.Obj)) (x dx y dy : Addr) (fa fm va vs : Int) (v0 v1 : Value) (k1 k2 k3 k4 k5 tv1 tv2 ka kb tm' ta' : Tok)
    (hva : 0 ≤ va) (hvs : 0 ≤ vs) (hfa : 0 ≤ fa) (hfa9 : fa < 10 ^ 10) (hfm : 0 ≤ fm) (hfm9 : fm < 10 ^ 10) (hla : (hexOf va).length ≤ 20) (hls : (hexOf vs).length ≤ 20)
    (m1 : (x, instObj 157 dx) ∈ news) (m2 : (dx, dML w va vs v0 v1 y k1 k2 k3 k4 k5 tv1 tv2) ∈ news) (m3 : (y, instObj 82 dy) ∈ news) (m4 : (dy, dAl w fm fa ka kb tm' ta') ∈ news) :
    Does 10 w mean mg mb 154 [.ref x] [] news (fun r news' => news' = news ∧ ∃ t', r = .str (locText va fa vs fm) t') (fun nx => nx = news ∧ False) := by
  intro dp un cn cs a ccd cl outer A₀ base h₀ L m s Q E B F K N T hk hdp hun hret hraise
  refine c_str0 w mean mg mb news x dx y dy fa fm va vs v0 v1 k1 k2 k3 k4 k5 tv1 tv2 ka kb tm' ta' hva hvs hfa hfa9 hfm hfm9 hla hls dp un cn cs a ccd cl outer A₀ base h₀ L m s Q E B F K (fun p hp => ?_) T hk hdp hun ?_ (fun nx hx => hx.2.elim)
  · rcases List.mem_append.mp hp with hp | hp
    · have hs : ∀ p ∈ [(x, instObj 157 dx), (dx, dML w va vs v0 v1 y k1 k2 k3 k4 k5 tv1 tv2), (y, instObj 82 dy), (dy, dAl w fm fa ka kb tm' ta')], p ∈ news := List.forall_mem_cons.mpr ⟨m1, List.forall_mem_cons.mpr ⟨m2, List.forall_mem_cons.mpr ⟨m3, List.forall_mem_cons.mpr ⟨m4, List.forall_mem_nil _⟩⟩⟩⟩
      exact N p (hs p hp)
    · exact N p hp
  · rintro v news' h' tk' F' N' ⟨rfl, t', rfl⟩
    exact hret.use F' (fun p hp => N' p (List.mem_append.mpr (.inr hp))) ⟨rfl, t', rfl⟩
end
/-- the lines that were read for the part above are not those of the next one -/
theorem pause_Z8 : True ∧ True := by first | (walk1; fail) | (w_top off; exact ⟨trivial, trivial⟩)
section
theorem fill_Z9 : (PySem.Challenge.rw_fe0333_02, hd.heap_39) = (PySem.Challenge.rw_fe0333_02, hd.heap_39) := by k_fill; rfl
local macro_rules | `(tactic| walk_at "binaryOp Pow int int") => `(tactic| (k_here; (with_reducible refine pow_int_small ?kb1 ?kb2 ?kb3 ?_); (case kb1 => first | decide | exact fmod_nn _ (by decide)); (case kb2 => first | decide | exact fmod_le6 _ (by decide) (by decide)); (case kb3 => decide)))
local macro_rules | `(tactic| walk_at "getMethod ref") => `(tactic| (k_here; (with_reducible show wpAny _ _ (getMethod (Value.ref 57) (Str.ofString "keys") _) _ _ _); refine keys_get (keyed57 (by k_asm)) (by k_asm) ?_))
local macro_rules | `(tactic| walk_at "getMethod ref") => `(tactic| (k_here; (with_reducible show wpAny _ _ (getMethod (Value.ref 58) (Str.ofString "keys") _) _ _ _); refine keys_get (keyed58 (by k_asm)) (by k_asm) ?_))
local macro_rules | `(tactic| walk_at "call builtin:dict.keys") => `(tactic| (k_here; (with_reducible show wpAny _ _ (call (Value.builtin "dict.keys") [Value.ref _]) _ _ _); (first | (refine keys_call (keyed57 (by k_asm)) (by k_asm) (by k_asm) ?_) | (refine keys_call (keyed58 (by k_asm)) (by k_asm) (by k_asm) ?_)); intro V' h' F' N' l1; (try k_lt l1)))
local macro_rules | `(tactic| walk_at "call type:list") => `(tactic| (k_here; (with_reducible show wpAny _ _ (call (Value.type _) [Value.ref _]) _ _ _); (first | (refine keys_list (keyed57 (by k_asm)) rfl (by k_asm) (by k_asm) (by k_mem) ?_) | (refine keys_list (keyed58 (by k_asm)) rfl (by k_asm) (by k_asm) (by k_mem) ?_)); intro B' c' h' tk' t1 t2 t3 t4 t5 t6 t7 t8 F' N' l1; (try k_lt l1)))
local macro_rules | `(tactic| walk_at "binaryOp Mod str ref") => `(tactic| (k_here; (with_reducible show wpAny _ _ (binaryOp Operator.Mod (Value.str (Str.ofString "address_format must be an integer selected from : %s ") _) (Value.ref _)) _ _ _); refine' text1 ?a1 ?a2 ?a3 ?g ?u ?_; (case a1 => k_asm); (case a2 => k_asm); (case a3 => k_mem); (case g => (first | (simp only [guards_deeper, guards_make]; done) | ((try simp only [guards_deeper, guards_make]); rfl))); (case u => (have hc9 := cLine_is; (try simp only [units_make, units_deeper, units_in1]); (try dsimp only [ktrTop]); omega)); intro t' h' tk' F' N'))
local macro_rules | `(tactic| walk_at "binaryOp Mod str ref") => `(tactic| (k_here; (with_reducible show wpAny _ _ (binaryOp Operator.Mod (Value.str (Str.ofString "memorysize_format must be an integer selected from : %s") _) (Value.ref _)) _ _ _); refine' text2 ?a1 ?a2 ?a3 ?g ?u ?_; (case a1 => k_asm); (case a2 => k_asm); (case a3 => k_mem); (case g => (first | (simp only [guards_deeper, guards_make]; done) | ((try simp only [guards_deeper, guards_make]); rfl))); (case u => (have hc9 := cLine_is; (try simp only [units_make, units_deeper, units_in1]); (try dsimp only [ktrTop]); omega)); intro t' h' tk' F' N'))
local macro_rules | `(tactic| walk_at "my enter") => `(tactic| k_dflt (refine' code_def ?k1 ?k2 ?k3 ?k4 ?k5 ?kA ?kF ?kK ?k6 ?k7 ?k8 ?k9 ?kB ?_ ?c2 ?c3 ?c4 ?c5; (case kA => exact rfl); (case kF => exact rfl); (case kK => first | assumption | exact rfl); (case k1 => k_asm); (case k2 => k_asm); (case k3 => k_asm); (case k4 => k_asm); (case k5 => k_asm); (case k6 => k_is); (case k7 => k_is); (case k8 => ((try simp only [depth_make, depth_deeper, depth_in1]); (try dsimp only [ktrTop]); omega)); (case k9 => first | exact BindsTo.of_eq rfl | exact binds_K (by k_in) rfl (by k_is) rfl rfl rfl); (case c5 => decide); (case kB => exact locs rfl); (case c2 => exact rfl); (case c3 => exact rfl); (case c4 => exact rfl); k_whole; intro g' L' h' FG' F' N' B' X' T'; (try dsimp only); (try k_fold)))
local macro_rules | `(tactic| walk_at "my make") => `(tactic| (k_dflt (refine' call_cls ?k1 ?k2 ?k3 ?k4 ?k5 ?k6 ?_; (case k1 => k_asm); (case k2 => k_asm); (case k3 => k_asm); (case k4 => k_is); (case k5 => k_is); (case k6 => k_is); k_whole; intro x' d' h' F' N' l1 l2; (try k_lt l1); (try k_lt2 l2); (try k_sweep)); walk_at "my enter"))
local macro_rules | `(tactic| walk_at "my room") => `(tactic| first | ((try simp only [depth_make, depth_deeper, depth_in1, units_make, units_deeper, units_in1]); (try dsimp only [ktrTop]); omega) | decide | (with_unfolding_all decide))
local macro_rules | `(tactic| walk_at "leaving ref") => `(tactic| (k_here; first | (refine' leave_raiseS ?k1 ?k0 ?k2 ?k3 ?_; (case k0 => first | assumption | exact Heap.MadeExc.of (by assumption)); (case k2 => assumption); (case k1 => assumption); (case k3 => k_asm); k_whole; intro h' t' S' R' U'; (try dsimp only at S' R' U' ⊢)) | (refine' leave_onS ?k1 ?k2 ?k3 ?k4 ?_; (case k3 => assumption); (case k2 => assumption); (case k1 => assumption); (case k4 => assumption); k_whole; intro h' S' R' U'; (try dsimp only at S' R' U' ⊢))))
local macro_rules | `(tactic| walk_at "call ref") => `(tactic| (k_here; (with_reducible show wpAny _ _ (call (Value.ref 116) [Value.ref _, Value.int _ _] _) _ _ _); k_dflt (refine' c_auto1 _ _ _ _ _ _ _ _ _ _ _ _ _ _ _ _ _ _ _ _ _ _ _ _ ?k1 ?k2 ?k3 ?k4 ?k5 ?kK ?kd ?ku ?_ ?_; (case k1 => k_asm); (case k2 => k_asm); (case k3 => k_asm); (case k4 => k_asm); (case k5 => k_asm); (case kK => first | exact rfl | assumption); (case kd => walk_at "my room"); (case ku => walk_at "my room"); (focus (unfold Bck; intro v9 n9 h' tk' F' N' r9; obtain ⟨e9, hle, t9, e8⟩ := r9; subst e9; subst e8; (try dsimp only); (try k_fold))); rotate_left; (focus (unfold Rai; intro n9 r9; obtain ⟨e9, hle⟩ := r9; subst e9; intro g' e' t' vs' h' tk' FG' R' U'; (try dsimp only); (try k_fold))); rotate_left)))
local macro_rules | `(tactic| walk_at "call ref") => `(tactic| (k_here; (with_reducible show wpAny _ _ (call (Value.ref 123) [Value.ref _, Value.int _ _] _) _ _ _); k_dflt (refine' c_auto2 _ _ _ _ _ _ _ _ _ _ _ _ _ _ _ _ _ _ _ _ _ _ _ _ ?k1 ?k2 ?k3 ?k4 ?k5 ?kK ?kd ?ku ?_ ?_; (case k1 => k_asm); (case k2 => k_asm); (case k3 => k_asm); (case k4 => k_asm); (case k5 => k_asm); (case kK => first | exact rfl | assumption); (case kd => walk_at "my room"); (case ku => walk_at "my room"); (focus (unfold Bck; intro v9 n9 h' tk' F' N' r9; obtain ⟨e9, hle, t9, e8⟩ := r9; subst e9; subst e8; (try dsimp only); (try k_fold))); rotate_left; (focus (unfold Rai; intro n9 r9; obtain ⟨e9, hle⟩ := r9; subst e9; intro g' e' t' vs' h' tk' FG' R' U'; (try dsimp only); (try k_fold))); rotate_left)))
local macro_rules | `(tactic| walk_at "call ref") => `(tactic| (k_here; (with_reducible show wpAny _ _ (call (Value.ref 82) [] _) _ _ _); k_dflt (refine' c_alfid _ _ _ _ _ _ _ _ _ _ _ _ _ _ _ _ _ _ _ _ _ _ _ _ _ ?k1 ?k2 ?k3 ?k4 ?k5 ?kK ?kd ?ku ?_ ?_; (case k1 => k_asm); (case k2 => k_asm); (case k3 => k_asm); (case k4 => k_asm); (case k5 => k_asm); (case kK => first | exact rfl | assumption); (case kd => walk_at "my room"); (case ku => walk_at "my room"); (focus (unfold Bck; intro v9 n9 h' tk' F' N' r9; obtain ⟨x9, d9, ka9, kb9, e9, e8, l2, l1, hfa, hfm⟩ := r9; subst e9; subst e8; (try k_lt l1); (try k_lt2 l2); (try dsimp only); (try k_fold))); rotate_left; (focus (unfold Rai; intro n9 r9; obtain ⟨e9, hno⟩ := r9; subst e9; intro g' e' t' vs' h' tk' FG' R' U'; (try dsimp only); (try k_fold))); rotate_left)))
local macro_rules | `(tactic| walk_at "my sub") => `(tactic| ((repeat' (refine List.forall_mem_cons.mpr ⟨by k_mem, ?_⟩)); (intro p hp; repeat (first | exact hp | apply List.Mem.tail))))
local macro_rules | `(tactic| walk_at "my no") => `(tactic| first | assumption | exact and_no1 (by assumption) | exact and_no2 (by assumption) | exact and_no1 (no8 (by assumption)) | exact and_no2 (no8 (by assumption)))
local macro_rules | `(tactic| walk_at "my raise") => `(tactic| ((try dsimp only [InitBack]); refine' Rai.use2 ?H ?C ?U ?F ?R ?S; (case H => assumption); (case C => walk_at "my no"); (case U => assumption); (case F => assumption); (case R => assumption); (case S => walk_at "my sub")))
set_option maxHeartbeats 8000000 in
theorem c_mlK (w : World) (mean : ExcName → Option Value) (mg mb : Str → Option Value) (news : List (Addr × Obj)) (v1 v2 f0 f1 : Int) (ta tm t0 t1 : Tok) :
    Does 20 w mean mg mb 157 [] [(Str.ofString "address", .int v1 ta), (Str.ofString "memorysize", .int v2 tm), (Str.ofString "address_format", .int f0 t0), (Str.ofString "memorysize_format", .int f1 t1)] news
      (fun r news' => ∃ x dx y dy k1 k2 k3 k4 k5 ka kb ta' tm', r = .ref x ∧
        news' = (y, instObj 82 dy) :: (dy, dAl w f1 f0 ka kb tm' ta') :: (x, instObj 157 dx) :: (dx, dML w v1 v2 (.int f0 t0) (.int f1 t1) y k1 k2 k3 k4 k5 ta tm) :: news ∧
        (∀ p ∈ news, p.1 < dx) ∧ belowN dx x ∧ belowN x dy ∧ belowN dy y ∧ ok8 f0 = true ∧ ok8 f1 = true)
      (fun nx => nx = news ∧ (ok8 f0 && ok8 f1) = false) := by
  intro dp un cn cs a ccd cl outer A₀ base h₀ L m s Q E B F K N T hk hdp hun hret hraise
  walk_at "my make"
  k_steps
  all_goals first
    | walk_at "my raise"
    | exact hret.use (by assumption) (by assumption) ⟨_, _, _, _, _, _, _, _, _, _, _, _, _, rfl, rfl, by assumption, by (unfold belowN; omega), by (unfold belowN; omega), by (unfold belowN; omega), by assumption, by assumption⟩
end
/-- the lines that were read for the part above are not those of the next one -/
theorem pause_Z9 : True ∧ True := by first | (walk1; fail) | (w_top off; exact ⟨trivial, trivial⟩)
section
theorem fill_Z10 : (PySem.Challenge.rw_fe0333_02, hd.heap_39) = (PySem.Challenge.rw_fe0333_02, hd.heap_39) := by k_fill; rfl
local macro_rules | `(tactic| walk_at "binaryOp Pow int int") => `(tactic| (k_here; (with_reducible refine pow_int_small ?kb1 ?kb2 ?kb3 ?_); (case kb1 => first | decide | exact fmod_nn _ (by decide)); (case kb2 => first | decide | exact fmod_le6 _ (by decide) (by decide)); (case kb3 => decide)))
local macro_rules | `(tactic| walk_at "getMethod ref") => `(tactic| (k_here; (with_reducible show wpAny _ _ (getMethod (Value.ref 57) (Str.ofString "keys") _) _ _ _); refine keys_get (keyed57 (by k_asm)) (by k_asm) ?_))
local macro_rules | `(tactic| walk_at "getMethod ref") => `(tactic| (k_here; (with_reducible show wpAny _ _ (getMethod (Value.ref 58) (Str.ofString "keys") _) _ _ _); refine keys_get (keyed58 (by k_asm)) (by k_asm) ?_))
local macro_rules | `(tactic| walk_at "call builtin:dict.keys") => `(tactic| (k_here; (with_reducible show wpAny _ _ (call (Value.builtin "dict.keys") [Value.ref _]) _ _ _); (first | (refine keys_call (keyed57 (by k_asm)) (by k_asm) (by k_asm) ?_) | (refine keys_call (keyed58 (by k_asm)) (by k_asm) (by k_asm) ?_)); intro V' h' F' N' l1; (try k_lt l1)))
local macro_rules | `(tactic| walk_at "call type:list") => `(tactic| (k_here; (with_reducible show wpAny _ _ (call (Value.type _) [Value.ref _]) _ _ _); (first | (refine keys_list (keyed57 (by k_asm)) rfl (by k_asm) (by k_asm) (by k_mem) ?_) | (refine keys_list (keyed58 (by k_asm)) rfl (by k_asm) (by k_asm) (by k_mem) ?_)); intro B' c' h' tk' t1 t2 t3 t4 t5 t6 t7 t8 F' N' l1; (try k_lt l1)))
local macro_rules | `(tactic| walk_at "binaryOp Mod str ref") => `(tactic| (k_here; (with_reducible show wpAny _ _ (binaryOp Operator.Mod (Value.str (Str.ofString "address_format must be an integer selected from : %s ") _) (Value.ref _)) _ _ _); refine' text1 ?a1 ?a2 ?a3 ?g ?u ?_; (case a1 => k_asm); (case a2 => k_asm); (case a3 => k_mem); (case g => (first | (simp only [guards_deeper, guards_make]; done) | ((try simp only [guards_deeper, guards_make]); rfl))); (case u => (have hc9 := cLine_is; (try simp only [units_make, units_deeper, units_in1]); (try dsimp only [ktrTop]); omega)); intro t' h' tk' F' N'))
local macro_rules | `(tactic| walk_at "binaryOp Mod str ref") => `(tactic| (k_here; (with_reducible show wpAny _ _ (binaryOp Operator.Mod (Value.str (Str.ofString "memorysize_format must be an integer selected from : %s") _) (Value.ref _)) _ _ _); refine' text2 ?a1 ?a2 ?a3 ?g ?u ?_; (case a1 => k_asm); (case a2 => k_asm); (case a3 => k_mem); (case g => (first | (simp only [guards_deeper, guards_make]; done) | ((try simp only [guards_deeper, guards_make]); rfl))); (case u => (have hc9 := cLine_is; (try simp only [units_make, units_deeper, units_in1]); (try dsimp only [ktrTop]); omega)); intro t' h' tk' F' N'))
local macro_rules | `(tactic| walk_at "my enter") => `(tactic| k_dflt (refine' code_def ?k1 ?k2 ?k3 ?k4 ?k5 ?kA ?kF ?kK ?k6 ?k7 ?k8 ?k9 ?kB ?_ ?c2 ?c3 ?c4 ?c5; (case kA => exact rfl); (case kF => exact rfl); (case kK => first | assumption | exact rfl); (case k1 => k_asm); (case k2 => k_asm); (case k3 => k_asm); (case k4 => k_asm); (case k5 => k_asm); (case k6 => k_is); (case k7 => k_is); (case k8 => ((try simp only [depth_make, depth_deeper, depth_in1]); (try dsimp only [ktrTop]); omega)); (case k9 => first | exact BindsTo.of_eq rfl | exact binds_K (by k_in) rfl (by k_is) rfl rfl rfl); (case c5 => decide); (case kB => exact locs rfl); (case c2 => exact rfl); (case c3 => exact rfl); (case c4 => exact rfl); k_whole; intro g' L' h' FG' F' N' B' X' T'; (try dsimp only); (try k_fold)))
local macro_rules | `(tactic| walk_at "my make") => `(tactic| (k_dflt (refine' call_cls ?k1 ?k2 ?k3 ?k4 ?k5 ?k6 ?_; (case k1 => k_asm); (case k2 => k_asm); (case k3 => k_asm); (case k4 => k_is); (case k5 => k_is); (case k6 => k_is); k_whole; intro x' d' h' F' N' l1 l2; (try k_lt l1); (try k_lt2 l2); (try k_sweep)); walk_at "my enter"))
local macro_rules | `(tactic| walk_at "my room") => `(tactic| first | ((try simp only [depth_make, depth_deeper, depth_in1, units_make, units_deeper, units_in1]); (try dsimp only [ktrTop]); omega) | decide | (with_unfolding_all decide))
local macro_rules | `(tactic| walk_at "leaving ref") => `(tactic| (k_here; first | (refine' leave_raiseS ?k1 ?k0 ?k2 ?k3 ?_; (case k0 => first | assumption | exact Heap.MadeExc.of (by assumption)); (case k2 => assumption); (case k1 => assumption); (case k3 => k_asm); k_whole; intro h' t' S' R' U'; (try dsimp only at S' R' U' ⊢)) | (refine' leave_onS ?k1 ?k2 ?k3 ?k4 ?_; (case k3 => assumption); (case k2 => assumption); (case k1 => assumption); (case k4 => assumption); k_whole; intro h' S' R' U'; (try dsimp only at S' R' U' ⊢))))
local macro_rules | `(tactic| walk_at "my sub") => `(tactic| ((repeat' (refine List.forall_mem_cons.mpr ⟨by k_mem, ?_⟩)); (intro p hp; repeat (first | exact hp | apply List.Mem.tail))))
local macro_rules | `(tactic| walk_at "my no") => `(tactic| first | assumption | exact and_no1 (by assumption) | exact and_no2 (by assumption) | exact and_no1 (no8 (by assumption)) | exact and_no2 (no8 (by assumption)))
local macro_rules | `(tactic| walk_at "my raise") => `(tactic| ((try dsimp only [InitBack]); refine' Rai.use2 ?H ?C ?U ?F ?R ?S; (case H => assumption); (case C => walk_at "my no"); (case U => assumption); (case F => assumption); (case R => assumption); (case S => walk_at "my sub")))
local macro_rules | `(tactic| walk_at "call ref") => `(tactic| (k_here; (with_reducible show wpAny _ _ (call (Value.ref 157) [] _) _ _ _); k_dflt (refine' c_mlK _ _ _ _ _ _ _ _ _ _ _ _ _  _ _ _ _ _ _ _ _ _ _ _ _ _ _ _ _ ?k1 ?k2 ?k3 ?k4 ?k5 ?kK ?kd ?ku  ?_ ?_; (case k1 => k_asm); (case k2 => k_asm); (case k3 => k_asm); (case k4 => k_asm); (case k5 => k_asm);  (case kK => first | exact rfl | assumption); (case kd => walk_at "my room"); (case ku => walk_at "my room"); (focus (unfold Bck; intro v9 n9 h' tk' F' N' r9; obtain ⟨x9, dx9, y9, dy9, k1, k2, k3, k4, k5, ka, kb, ta9, tm9, e9, e8, l1, lx1, lx2, lx3, hfa, hfm⟩ := r9; subst e9; subst e8; (try k_lt l1); unfold belowN at lx1 lx2 lx3; (try dsimp only); (try k_fold))); rotate_left; (focus (unfold Rai; intro n9 r9; obtain ⟨e9, hno⟩ := r9; subst e9; intro g' e' t' vs' h' tk' FG' R' U'; (try dsimp only); (try k_fold))); rotate_left)))
theorem natB_lt (b : Array UInt8) : natB b < 256 ^ b.size := by
  have h : (natB b : Int) = (KBw.bInts b).foldl (fun a d => a * 256 + d) 0 := natB_ints b
  have key : ∀ (l : List UInt8) (a : Int) (k : Nat), 0 ≤ a → a < 256 ^ k → (l.map fun c => (c.toNat : Int)).foldl (fun a d => a * 256 + d) a < 256 ^ (k + l.length) ∧ 0 ≤ (l.map fun c => (c.toNat : Int)).foldl (fun a d => a * 256 + d) a := by
    intro l
    induction l with
    | nil => intro a k h0 h1; exact ⟨h1, h0⟩
    | cons c l ih =>
      intro a k h0 h1
      have hc : (c.toNat : Int) < 256 := by have := c.toNat_lt; omega
      have e : (256 : Int) ^ (k + 1) = 256 ^ k * 256 := by rw [Int.pow_succ]
      have := ih (a * 256 + c.toNat) (k + 1) (by omega) (by omega)
      rw [List.map_cons, List.foldl_cons, List.length_cons, show k + (l.length + 1) = k + 1 + l.length by omega]
      exact this
  have := (key b.toList 0 0 (Int.le_refl _) (by decide)).1
  unfold KBw.bInts at h
  rw [Nat.zero_add, Array.length_toList, ← h] at this
  have e : ((256 ^ b.size : Nat) : Int) = (256 : Int) ^ b.size := by simp
  omega
theorem bInts_app (x b : Array UInt8) : KBw.bInts (x ++ b) = KBw.bInts x ++ KBw.bInts b := by
  unfold KBw.bInts
  simp
theorem pad_zero (k : Nat) : (KBw.bInts (List.replicate k [(0 : UInt8)]).flatten.toArray).foldl (fun a d => a * 256 + d) 0 = 0 := by
  unfold KBw.bInts
  rw [List.toList_toArray]
  induction k with
  | zero => rfl
  | succ k ih =>
    rw [List.replicate_succ, List.flatten_cons, List.singleton_append, List.map_cons, List.foldl_cons]
    exact ih
theorem natB_pad (k : Nat) (b : Array UInt8) : natB ((List.replicate k [(0 : UInt8)]).flatten.toArray ++ b) = natB b := by
  have h1 := natB_ints ((List.replicate k [(0 : UInt8)]).flatten.toArray ++ b)
  have h2 := natB_ints b
  rw [bInts_app, List.foldl_append, pad_zero, ← h2] at h1
  omega
theorem add_pad {prog : Program} {w : World} {A : Around} {E : Value → Shared → Prop} {s : Shared} {n : Int} {b : Array UInt8} {t u : Tok} {Q : Value → Shared → Prop} (hn : n = 8 - (b.size : Int)) (hb : b.size ≤ 8)
    (h : ∀ p t' k, p.size = 8 → natB p = natB b → Q (.bytes p t') { s with toks := k }) : wpAny (model prog w) A (binaryOp .Add (.bytes (List.replicate n.toNat [(0 : UInt8)]).flatten.toArray t) (.bytes b u)) Q E s := by
  have e4 : ((List.replicate n.toNat [(0 : UInt8)]).flatten.toArray).size = n.toNat := by simp
  refine KBy.add_bytes (by rw [e4]; omega) fun t' k => h _ t' k ?_ (natB_pad _ _)
  rw [Array.size_append, e4]
  omega
theorem natB_small {b p : Array UInt8} {k : Nat} (e : natB p = natB b) (hk : b.size ≤ k) (h7 : k ≤ 7) : natB p < 2 ^ 63 := by
  have h := natB_lt b
  have h2 : 256 ^ b.size ≤ 256 ^ 7 := Nat.pow_le_pow_right (by decide) (by omega)
  rw [e]
  have : (256 : Nat) ^ 7 < 2 ^ 63 := by decide
  omega
local macro_rules | `(tactic| walk_at "call builtin:_struct.unpack") => `(tactic| (k_here; k_dflt (refine' call_unpack ?F ?N ?b ?h1 ?_; (case F => k_asm); (case N => k_asm); (case b => assumption); (case h1 => exact natB_small (k := 7) (by with_reducible assumption) (by omega) (by decide))); (intro D' h' k' t' F' N' l1; (try k_lt l1))))
local macro_rules | `(tactic| walk_at "binaryOp Add bytes bytes") => `(tactic| (k_here; k_dflt (refine' add_pad ?hn ?hb ?_; (case hn => exact rfl); (case hb => omega)); intro p9 t9 k9 hp9 hv9))
theorem allLt_mem {d : Addr} {l : List (Addr × Obj)} (h : AllLt d l) : ∀ p ∈ l, @LT.lt Nat _ p.1 d := by
  induction l with
  | nil => intro p hp; cases hp
  | cons q l ih =>
    intro p hp
    rcases List.mem_cons.mp hp with e | hp
    · rw [e]; exact h.1
    · exact ih h.2 p hp
theorem ok8_sz (k : Nat) : ok8 ((k : Int) * 8) = true ↔ 1 ≤ k ∧ k ≤ 8 := by
  constructor
  · intro h
    have := ok8_bnd h
    omega
  · intro h
    have e : k = 1 ∨ k = 2 ∨ k = 3 ∨ k = 4 ∨ k = 5 ∨ k = 6 ∨ k = 7 ∨ k = 8 := by omega
    rcases e with e | e | e | e | e | e | e | e <;> subst e <;> rfl
theorem ok8_sn {j k : Nat} (h : (ok8 ((j : Int) * 8) && ok8 ((k : Int) * 8)) = false) (hj : j ≤ 5) (hk : k ≤ 4) : ¬ (1 ≤ j ∧ j ≤ 5 ∧ 1 ≤ k ∧ k ≤ 4) := fun ⟨a, _, b, _⟩ => by
  rw [(ok8_sz j).mpr ⟨a, by omega⟩, (ok8_sz k).mpr ⟨b, by omega⟩] at h
  cases h
theorem skip2 {a b c d e f : Addr × Obj} {l : List (Addr × Obj)} {p : Addr × Obj} (hp : p ∈ a :: b :: c :: d :: l) : p ∈ a :: b :: c :: d :: e :: f :: l := by
  simp only [List.mem_cons] at hp ⊢
  rcases hp with h | h | h | h | h
  · exact .inl h
  · exact .inr (.inl h)
  · exact .inr (.inr (.inl h))
  · exact .inr (.inr (.inr (.inl h)))
  · exact .inr (.inr (.inr (.inr (.inr (.inr h)))))
local macro_rules | `(tactic| walk_at "my no") => `(tactic| omega)
set_option maxHeartbeats 8000000 in
theorem c_from (w : World) (mean : ExcName → Option Value) (mg mb : Str → Option Value) (news : List (Addr × Obj)) (q : Addr) (b1 b2 : Array UInt8) (u1 u2 : Tok) (hq : (q, methodObj (.ref 144) (.ref 157)) ∈ news) (h7 : b1.size ≤ 7) (h6 : b2.size ≤ 6) :
    Does 25 w mean mg mb q [.bytes b1 u1, .bytes b2 u2] [] news
      (fun r news' => ∃ x dx y dy k1 k2 k3 k4 k5 ka kb ta' tm' ta tm t0 t1, r = .ref x ∧
        news' = (y, instObj 82 dy) :: (dy, dAl w (b2.size * 8) (b1.size * 8) ka kb tm' ta') :: (x, instObj 157 dx) :: (dx, dML w (natB b1) (natB b2) (.int (b1.size * 8) t0) (.int (b2.size * 8) t1) y k1 k2 k3 k4 k5 ta tm) :: news ∧
        (∀ p ∈ news, p.1 < dx) ∧ belowN dx x ∧ belowN x dy ∧ belowN dy y ∧ 1 ≤ b1.size ∧ b1.size ≤ 5 ∧ 1 ≤ b2.size ∧ b2.size ≤ 4)
      (fun nx => nx = news ∧ ¬ (1 ≤ b1.size ∧ b1.size ≤ 5 ∧ 1 ≤ b2.size ∧ b2.size ≤ 4)) := by
  intro dp un cn cs a ccd cl outer A₀ base h₀ L m s Q E B F K N T hk hdp hun hret hraise
  refine wpAny_call (method_call (N _ hq).1 ?_)
  walk_at "my enter"
  k_steps
  · walk_at "my raise"
  · walk_at "my raise"
  · have a1 := (ok8_sz b1.size).mp (by assumption)
    have a2 := (ok8_sz b2.size).mp (by assumption)
    rename natB _ = natB b1 => v1
    rename natB _ = natB b2 => v2
    rw [← v1, ← v2] at hret
    exact hret.use (by assumption) (fun p hp => (by assumption : News h₀ L _ ((_, instObj 82 _) :: _ :: _ :: _ :: _ :: _ :: news)) p (skip2 hp)) ⟨_, _, _, _, _, _, _, _, _, _, _, _, _, _, _, _, _, rfl, rfl, fun p hp => allLt_mem (by assumption : _ ∧ _ ∧ AllLt _ news).2.2 p hp, by (unfold belowN; omega), by (unfold belowN; omega), by (unfold belowN; omega), by omega, by omega, by omega, by omega⟩
  · have a3 := ok8_sn (by assumption) (by omega : b1.size ≤ 5) (by omega : b2.size ≤ 4)
    walk_at "my raise"
end
/-- the lines that were read for the part above are not those of the next one -/
theorem pause_Z10 : True ∧ True := by first | (walk1; fail) | (w_top off; exact ⟨trivial, trivial⟩)
section
theorem fill_Z11 : (PySem.Challenge.rw_fe0333_02, hd.heap_39) = (PySem.Challenge.rw_fe0333_02, hd.heap_39) := by k_fill; rfl
local macro_rules | `(tactic| walk_at "binaryOp Pow int int") => `(tactic| (k_here; (with_reducible refine pow_int_small ?kb1 ?kb2 ?kb3 ?_); (case kb1 => first | decide | exact fmod_nn _ (by decide)); (case kb2 => first | decide | exact fmod_le6 _ (by decide) (by decide)); (case kb3 => decide)))
local macro_rules | `(tactic| walk_at "getMethod ref") => `(tactic| (k_here; (with_reducible show wpAny _ _ (getMethod (Value.ref 57) (Str.ofString "keys") _) _ _ _); refine keys_get (keyed57 (by k_asm)) (by k_asm) ?_))
local macro_rules | `(tactic| walk_at "getMethod ref") => `(tactic| (k_here; (with_reducible show wpAny _ _ (getMethod (Value.ref 58) (Str.ofString "keys") _) _ _ _); refine keys_get (keyed58 (by k_asm)) (by k_asm) ?_))
local macro_rules | `(tactic| walk_at "call builtin:dict.keys") => `(tactic| (k_here; (with_reducible show wpAny _ _ (call (Value.builtin "dict.keys") [Value.ref _]) _ _ _); (first | (refine keys_call (keyed57 (by k_asm)) (by k_asm) (by k_asm) ?_) | (refine keys_call (keyed58 (by k_asm)) (by k_asm) (by k_asm) ?_)); intro V' h' F' N' l1; (try k_lt l1)))
local macro_rules | `(tactic| walk_at "call type:list") => `(tactic| (k_here; (with_reducible show wpAny _ _ (call (Value.type _) [Value.ref _]) _ _ _); (first | (refine keys_list (keyed57 (by k_asm)) rfl (by k_asm) (by k_asm) (by k_mem) ?_) | (refine keys_list (keyed58 (by k_asm)) rfl (by k_asm) (by k_asm) (by k_mem) ?_)); intro B' c' h' tk' t1 t2 t3 t4 t5 t6 t7 t8 F' N' l1; (try k_lt l1)))
local macro_rules | `(tactic| walk_at "binaryOp Mod str ref") => `(tactic| (k_here; (with_reducible show wpAny _ _ (binaryOp Operator.Mod (Value.str (Str.ofString "address_format must be an integer selected from : %s ") _) (Value.ref _)) _ _ _); refine' text1 ?a1 ?a2 ?a3 ?g ?u ?_; (case a1 => k_asm); (case a2 => k_asm); (case a3 => k_mem); (case g => (first | (simp only [guards_deeper, guards_make]; done) | ((try simp only [guards_deeper, guards_make]); rfl))); (case u => (have hc9 := cLine_is; (try simp only [units_make, units_deeper, units_in1]); (try dsimp only [ktrTop]); omega)); intro t' h' tk' F' N'))
local macro_rules | `(tactic| walk_at "binaryOp Mod str ref") => `(tactic| (k_here; (with_reducible show wpAny _ _ (binaryOp Operator.Mod (Value.str (Str.ofString "memorysize_format must be an integer selected from : %s") _) (Value.ref _)) _ _ _); refine' text2 ?a1 ?a2 ?a3 ?g ?u ?_; (case a1 => k_asm); (case a2 => k_asm); (case a3 => k_mem); (case g => (first | (simp only [guards_deeper, guards_make]; done) | ((try simp only [guards_deeper, guards_make]); rfl))); (case u => (have hc9 := cLine_is; (try simp only [units_make, units_deeper, units_in1]); (try dsimp only [ktrTop]); omega)); intro t' h' tk' F' N'))
local macro_rules | `(tactic| walk_at "my enter") => `(tactic| k_dflt (refine' code_def ?k1 ?k2 ?k3 ?k4 ?k5 ?kA ?kF ?kK ?k6 ?k7 ?k8 ?k9 ?kB ?_ ?c2 ?c3 ?c4 ?c5; (case kA => exact rfl); (case kF => exact rfl); (case kK => first | assumption | exact rfl); (case k1 => k_asm); (case k2 => k_asm); (case k3 => k_asm); (case k4 => k_asm); (case k5 => k_asm); (case k6 => k_is); (case k7 => k_is); (case k8 => ((try simp only [depth_make, depth_deeper, depth_in1]); (try dsimp only [ktrTop]); omega)); (case k9 => first | exact BindsTo.of_eq rfl | exact binds_K (by k_in) rfl (by k_is) rfl rfl rfl); (case c5 => decide); (case kB => exact locs rfl); (case c2 => exact rfl); (case c3 => exact rfl); (case c4 => exact rfl); k_whole; intro g' L' h' FG' F' N' B' X' T'; (try dsimp only); (try k_fold)))
local macro_rules | `(tactic| walk_at "my make") => `(tactic| (k_dflt (refine' call_cls ?k1 ?k2 ?k3 ?k4 ?k5 ?k6 ?_; (case k1 => k_asm); (case k2 => k_asm); (case k3 => k_asm); (case k4 => k_is); (case k5 => k_is); (case k6 => k_is); k_whole; intro x' d' h' F' N' l1 l2; (try k_lt l1); (try k_lt2 l2); (try k_sweep)); walk_at "my enter"))
local macro_rules | `(tactic| walk_at "my room") => `(tactic| first | ((try simp only [depth_make, depth_deeper, depth_in1, units_make, units_deeper, units_in1]); (try dsimp only [ktrTop]); omega) | decide | (with_unfolding_all decide))
local macro_rules | `(tactic| walk_at "leaving ref") => `(tactic| (k_here; first | (refine' leave_raiseS ?k1 ?k0 ?k2 ?k3 ?_; (case k0 => first | assumption | exact Heap.MadeExc.of (by assumption)); (case k2 => assumption); (case k1 => assumption); (case k3 => k_asm); k_whole; intro h' t' S' R' U'; (try dsimp only at S' R' U' ⊢)) | (refine' leave_onS ?k1 ?k2 ?k3 ?k4 ?_; (case k3 => assumption); (case k2 => assumption); (case k1 => assumption); (case k4 => assumption); k_whole; intro h' S' R' U'; (try dsimp only at S' R' U' ⊢))))
local macro_rules | `(tactic| walk_at "my sub") => `(tactic| ((repeat' (refine List.forall_mem_cons.mpr ⟨by k_mem, ?_⟩)); (intro p hp; repeat (first | exact hp | apply List.Mem.tail))))
local macro_rules | `(tactic| walk_at "my no") => `(tactic| first | assumption | exact and_no1 (by assumption) | exact and_no2 (by assumption) | exact and_no1 (no8 (by assumption)) | exact and_no2 (no8 (by assumption)))
local macro_rules | `(tactic| walk_at "my raise") => `(tactic| ((try dsimp only [InitBack]); refine' Rai.use2 ?H ?C ?U ?F ?R ?S; (case H => assumption); (case C => walk_at "my no"); (case U => assumption); (case F => assumption); (case R => assumption); (case S => walk_at "my sub")))
local macro_rules | `(tactic| walk_at "callWith ref nil") => `(tactic| (k_here; k_dflt (refine' callWith_KW0 ?k1 ?k2 ?k3 ?_; (case k1 => k_asm); (case k2 => k_is); (case k3 => exact rfl); k_whole)))
local macro_rules | `(tactic| walk_at "call ref") => `(tactic| (k_here; (with_reducible show wpAny _ _ (call (Value.ref _) [Value.bytes _ _, Value.bytes _ _] _) _ _ _); k_dflt (refine' c_from _ _ _ _ _ _ _ _ _ _ ?hq ?h7 ?h6 _ _ _ _ _ _ _ _ _ _ _ _ _ _ _ _ ?k1 ?k2 ?k3 ?k4 ?k5 ?kK ?kd ?ku  ?_ ?_; (case k1 => k_asm); (case k2 => k_asm); (case k3 => k_asm); (case k4 => k_asm); (case k5 => k_asm); (case hq => k_mem); (case h7 => assumption); (case h6 => assumption); (case kK => first | exact rfl | assumption); (case kd => walk_at "my room"); (case ku => walk_at "my room"); (focus (unfold Bck; intro v9 n9 h' tk' F' N' r9; obtain ⟨x9, dx9, y9, dy9, k1, k2, k3, k4, k5, ka, kb, ta9, tm9, tu9, tv9, t0, t1, e9, e8, l1, lx1, lx2, lx3, hs1, hs2, hs3, hs4⟩ := r9; subst e9; subst e8; (try k_lt l1); unfold belowN at lx1 lx2 lx3; (try dsimp only); (try k_fold))); rotate_left; (focus (unfold Rai; intro n9 r9; obtain ⟨e9, hno⟩ := r9; subst e9; intro g' e' t' vs' h' tk' FG' R' U'; (try dsimp only); (try k_fold))); rotate_left)))
/-- a call from the law itself, of a def that catches -/
abbrev DoesL (lv : Nat) (w : World) (mean : ExcName → Option Value) (mg mb : Str → Option Value) (f : Addr) (vs : List Value) (kw : List (Str × Value)) (news : List (Addr × Obj)) (R : Value → List (Addr × Obj) → Prop) : Prop :=
  ∀ (dp un : Nat) (cn : Str) (cs : Scope) (a : Addr) (ccd : Value) (cl : List (Str × Addr)) (A₀ : Around) (h₀ : Heap) (L : Addr) (m : Str → Option Value) (s : Shared) (Q E : Value → Shared → Prop),
    Below A₀ h₀ [] h₀ → Fr h₀ L s.heap m → (hd.heap_39 w.params).In h₀ → News h₀ L s.heap news → Top hd.view_39 LO mean mg mb h₀ → cs.kind = .function → dp + lv < recursionLimit → un + 20 * lv < cLine →
    Bck h₀ L m s Q R →
    wpAny (model PR w) (ktrTop dp un (some []) cn cs L a ccd cl []) (call (.ref f) vs kw) Q E s
theorem ground9_of {w : World} {mean : ExcName → Option Value} {mg mb : Str → Option Value} {h₀ : Heap} (K : (hd.heap_39 w.params).In h₀) (T : Top hd.view_39 LO mean mg mb h₀) : Ground9 w mean mg mb h₀ := ⟨K, T⟩
local macro_rules | `(tactic| walk_at "my enterr") => `(tactic| k_dflt (refine' enter_raw ?k1 ?k2 ?k3 ?k4 ?k5 ?kA ?kF ?kK ?k6 ?k7 ?k8 ?k9 ?kB ?_ ?c2 ?c3 ?c4 ?c5; (case kA => exact rfl); (case kF => exact rfl); (case kK => first | assumption | exact rfl); (case k1 => k_asm); (case k2 => k_asm); (case k3 => k_asm); (case k4 => k_asm); (case k5 => k_asm); (case k6 => k_is); (case k7 => k_is); (case k8 => ((try simp only [depth_make, depth_deeper, depth_in1]); (try dsimp only [ktrTop]); omega)); (case k9 => first | exact BindsTo.of_eq rfl | exact binds_K (by k_in) rfl (by k_is) rfl rfl rfl); (case c5 => decide); (case kB => exact locs rfl); (case c2 => exact rfl); (case c3 => exact rfl); (case c4 => exact rfl); k_whole; intro g' L' h' FG' F' N' B' X' T'; (try dsimp only); (try k_fold)))
local macro_rules | `(tactic| walk_at "my catchV") => `(tactic| (refine' caught_S0 (T' := "ValueError") ?R ?F ?K ?U ?XB ?TB ?D ?T0 ?ex PyProof.Rows.Boot.«ValueError» ?hn PySem.F.isExc_ValueError PySem.F.notTuple_ValueError ?hs ?_; (case R => assumption); (case U => assumption); (case F => assumption); (case K => assumption); (case XB => exact Ground9.inK (by assumption)); (case TB => exact Ground9.top (by assumption)); (case D => exact dicts_one (by assumption)); (case T0 => exact KtsTurn.refl); (case hs => kts_sub); (case ex => k_is); (case hn => decide); k_whole; intro h' g' n₂ Tn' F' N₂ G' N' B' X' P' D'))
local macro_rules | `(tactic| walk_at "my exit") => `(tactic| (first | (obtain ⟨F0, N0⟩ := exit_turn (by assumption) (by assumption : KtsTurn _ _ _) (by assumption) (by assumption)) | (obtain ⟨F0, N0⟩ := exit_turn (by assumption) KtsTurn.refl (by assumption) (by assumption))))
theorem exit_use {h₀ g g' h : Heap} {L L' : Addr} {m m' : Str → Option Value} {s : Shared} {Q : Value → Shared → Prop} {R : Value → List (Addr × Obj) → Prop} {v : Value} {news' : List (Addr × Obj)} {tk : Nat} (hret : Bck h₀ L m s Q R) (FG : Fr h₀ L g m) (F : Fr g' L' h m') (N : News g' L' h news') (T : KtsTurn [L] g g') (r : R v news') : Q v { s with heap := h, toks := tk } := by
  obtain ⟨F0, N0⟩ := exit_turn FG T F N
  exact hret.use F0 N0 r
theorem skip1 {a e : Addr × Obj} {l : List (Addr × Obj)} {p : Addr × Obj} (hp : p ∈ a :: l) : p ∈ a :: e :: l := by
  rcases List.mem_cons.mp hp with h | h
  · exact h ▸ .head _
  · exact .tail _ (.tail _ h)
theorem skip5 {a b c d e f : Addr × Obj} {l : List (Addr × Obj)} {p : Addr × Obj} (hp : p ∈ a :: b :: c :: d :: e :: l) : p ∈ a :: b :: c :: d :: e :: f :: l := by
  simp only [List.mem_cons] at hp ⊢
  rcases hp with h | h | h | h | h | h
  · exact .inl h
  · exact .inr (.inl h)
  · exact .inr (.inr (.inl h))
  · exact .inr (.inr (.inr (.inl h)))
  · exact .inr (.inr (.inr (.inr (.inl h))))
  · exact .inr (.inr (.inr (.inr (.inr (.inr h)))))
theorem news_by {h₀ h : Heap} {L : Addr} {l l' : List (Addr × Obj)} (N : News h₀ L h l) (hs : ∀ p ∈ l', p ∈ l) : News h₀ L h l' := fun p hp => N p (hs p hp)
/-- what a read of two handed values gives: none, or one location -/
def ReadR (w : World) (tl : List (Addr × Obj)) (good : Prop) (va vs fa fm : Int) (r : Value) (news' : List (Addr × Obj)) : Prop :=
  (∃ l nl, r = .ref l ∧ ¬ good ∧ news' = (l, listOf #[] nl) :: tl ∧ (∀ p ∈ tl, @LT.lt Nat _ p.1 l)) ∨
    (∃ l nl x dx y dy k1 k2 k3 k4 k5 ka kb ta' tm' ta tm t0 t1, r = .ref l ∧ good ∧
      news' = (l, listOf #[.ref x] nl) :: (y, instObj 82 dy) :: (dy, dAl w fm fa ka kb tm' ta') :: (x, instObj 157 dx) :: (dx, dML w va vs (.int fa t0) (.int fm t1) y k1 k2 k3 k4 k5 ta tm) :: tl ∧
      (∀ p ∈ tl, @LT.lt Nat _ p.1 dx) ∧ belowN dx x ∧ belowN x dy ∧ belowN dy y ∧ belowN y l)
set_option maxHeartbeats 8000000 in
theorem c_read (w : World) (mean : ExcName → Option Value) (mg mb : Str → Option Value) (tl : List (Addr × Obj)) (b1 b2 : Array UInt8) (u1 u2 : Tok) (h7 : b1.size ≤ 7) (h6 : b2.size ≤ 6) :
    DoesL 40 w mean mg mb 201 [.bytes b1 u1, .bytes b2 u2] [] tl (ReadR w tl (1 ≤ b1.size ∧ b1.size ≤ 5 ∧ 1 ≤ b2.size ∧ b2.size ≤ 4) (natB b1) (natB b2) (b1.size * 8) (b2.size * 8)) := by
  intro dp un cn cs a ccd cl A₀ h₀ L m s Q E B F K N T hk hdp hun hret
  have GB := ground9_of K T
  refine wpAny_call ?_
  walk_at "my enterr"
  k_steps
  · exact exit_use hret (by assumption) (by assumption) (news_by (by assumption) fun p hp => skip5 hp) KtsTurn.refl (.inr ⟨_, _, _, _, _, _, _, _, _, _, _, _, _, _, _, _, _, _, _, rfl, ⟨by assumption, by assumption, by assumption, by assumption⟩, rfl, fun p hp => allLt_mem (by assumption : _ ∧ AllLt _ tl).2 p hp, by (unfold belowN; omega), by (unfold belowN; omega), by (unfold belowN; omega), by (unfold belowN; omega)⟩)
  · walk_at "my catchV"
    k_steps
    exact exit_use hret (by assumption) (by assumption) (news_by (by assumption) fun p hp => skip1 hp) (by assumption) (.inl ⟨_, _, rfl, by assumption, rfl, fun p hp => allLt_mem (by assumption : _ ∧ AllLt _ tl).2 p hp⟩)
end
/-- the lines that were read for the part above are not those of the next one -/
theorem pause_Z11 : True ∧ True := by first | (walk1; fail) | (w_top off; exact ⟨trivial, trivial⟩)
section
theorem fill_Z12 : (PySem.Challenge.rw_fe0333_02, hd.heap_39) = (PySem.Challenge.rw_fe0333_02, hd.heap_39) := by k_fill; rfl
local macro_rules | `(tactic| walk_at "binaryOp Pow int int") => `(tactic| (k_here; (with_reducible refine pow_int_small ?kb1 ?kb2 ?kb3 ?_); (case kb1 => first | decide | exact fmod_nn _ (by decide)); (case kb2 => first | decide | exact fmod_le6 _ (by decide) (by decide)); (case kb3 => decide)))
local macro_rules | `(tactic| walk_at "getMethod ref") => `(tactic| (k_here; (with_reducible show wpAny _ _ (getMethod (Value.ref 57) (Str.ofString "keys") _) _ _ _); refine keys_get (keyed57 (by k_asm)) (by k_asm) ?_))
local macro_rules | `(tactic| walk_at "getMethod ref") => `(tactic| (k_here; (with_reducible show wpAny _ _ (getMethod (Value.ref 58) (Str.ofString "keys") _) _ _ _); refine keys_get (keyed58 (by k_asm)) (by k_asm) ?_))
local macro_rules | `(tactic| walk_at "call builtin:dict.keys") => `(tactic| (k_here; (with_reducible show wpAny _ _ (call (Value.builtin "dict.keys") [Value.ref _]) _ _ _); (first | (refine keys_call (keyed57 (by k_asm)) (by k_asm) (by k_asm) ?_) | (refine keys_call (keyed58 (by k_asm)) (by k_asm) (by k_asm) ?_)); intro V' h' F' N' l1; (try k_lt l1)))
local macro_rules | `(tactic| walk_at "call type:list") => `(tactic| (k_here; (with_reducible show wpAny _ _ (call (Value.type _) [Value.ref _]) _ _ _); (first | (refine keys_list (keyed57 (by k_asm)) rfl (by k_asm) (by k_asm) (by k_mem) ?_) | (refine keys_list (keyed58 (by k_asm)) rfl (by k_asm) (by k_asm) (by k_mem) ?_)); intro B' c' h' tk' t1 t2 t3 t4 t5 t6 t7 t8 F' N' l1; (try k_lt l1)))
local macro_rules | `(tactic| walk_at "binaryOp Mod str ref") => `(tactic| (k_here; (with_reducible show wpAny _ _ (binaryOp Operator.Mod (Value.str (Str.ofString "address_format must be an integer selected from : %s ") _) (Value.ref _)) _ _ _); refine' text1 ?a1 ?a2 ?a3 ?g ?u ?_; (case a1 => k_asm); (case a2 => k_asm); (case a3 => k_mem); (case g => (first | (simp only [guards_deeper, guards_make]; done) | ((try simp only [guards_deeper, guards_make]); rfl))); (case u => (have hc9 := cLine_is; (try simp only [units_make, units_deeper, units_in1]); (try dsimp only [ktrTop]); omega)); intro t' h' tk' F' N'))
local macro_rules | `(tactic| walk_at "binaryOp Mod str ref") => `(tactic| (k_here; (with_reducible show wpAny _ _ (binaryOp Operator.Mod (Value.str (Str.ofString "memorysize_format must be an integer selected from : %s") _) (Value.ref _)) _ _ _); refine' text2 ?a1 ?a2 ?a3 ?g ?u ?_; (case a1 => k_asm); (case a2 => k_asm); (case a3 => k_mem); (case g => (first | (simp only [guards_deeper, guards_make]; done) | ((try simp only [guards_deeper, guards_make]); rfl))); (case u => (have hc9 := cLine_is; (try simp only [units_make, units_deeper, units_in1]); (try dsimp only [ktrTop]); omega)); intro t' h' tk' F' N'))
local macro_rules | `(tactic| walk_at "my enter") => `(tactic| k_dflt (refine' code_def ?k1 ?k2 ?k3 ?k4 ?k5 ?kA ?kF ?kK ?k6 ?k7 ?k8 ?k9 ?kB ?_ ?c2 ?c3 ?c4 ?c5; (case kA => exact rfl); (case kF => exact rfl); (case kK => first | assumption | exact rfl); (case k1 => k_asm); (case k2 => k_asm); (case k3 => k_asm); (case k4 => k_asm); (case k5 => k_asm); (case k6 => k_is); (case k7 => k_is); (case k8 => ((try simp only [depth_make, depth_deeper, depth_in1]); (try dsimp only [ktrTop]); omega)); (case k9 => first | exact BindsTo.of_eq rfl | exact binds_K (by k_in) rfl (by k_is) rfl rfl rfl); (case c5 => decide); (case kB => exact locs rfl); (case c2 => exact rfl); (case c3 => exact rfl); (case c4 => exact rfl); k_whole; intro g' L' h' FG' F' N' B' X' T'; (try dsimp only); (try k_fold)))
local macro_rules | `(tactic| walk_at "my make") => `(tactic| (k_dflt (refine' call_cls ?k1 ?k2 ?k3 ?k4 ?k5 ?k6 ?_; (case k1 => k_asm); (case k2 => k_asm); (case k3 => k_asm); (case k4 => k_is); (case k5 => k_is); (case k6 => k_is); k_whole; intro x' d' h' F' N' l1 l2; (try k_lt l1); (try k_lt2 l2); (try k_sweep)); walk_at "my enter"))
local macro_rules | `(tactic| walk_at "my room") => `(tactic| first | ((try simp only [depth_make, depth_deeper, depth_in1, units_make, units_deeper, units_in1]); (try dsimp only [ktrTop]); omega) | decide | (with_unfolding_all decide))
local macro_rules | `(tactic| walk_at "leaving ref") => `(tactic| (k_here; first | (refine' leave_raiseS ?k1 ?k0 ?k2 ?k3 ?_; (case k0 => first | assumption | exact Heap.MadeExc.of (by assumption)); (case k2 => assumption); (case k1 => assumption); (case k3 => k_asm); k_whole; intro h' t' S' R' U'; (try dsimp only at S' R' U' ⊢)) | (refine' leave_onS ?k1 ?k2 ?k3 ?k4 ?_; (case k3 => assumption); (case k2 => assumption); (case k1 => assumption); (case k4 => assumption); k_whole; intro h' S' R' U'; (try dsimp only at S' R' U' ⊢))))
local macro_rules | `(tactic| walk_at "my sub") => `(tactic| ((repeat' (refine List.forall_mem_cons.mpr ⟨by k_mem, ?_⟩)); (intro p hp; repeat (first | exact hp | apply List.Mem.tail))))
local macro_rules | `(tactic| walk_at "my no") => `(tactic| first | assumption | exact and_no1 (by assumption) | exact and_no2 (by assumption) | exact and_no1 (no8 (by assumption)) | exact and_no2 (no8 (by assumption)))
local macro_rules | `(tactic| walk_at "my raise") => `(tactic| ((try dsimp only [InitBack]); refine' Rai.use2 ?H ?C ?U ?F ?R ?S; (case H => assumption); (case C => walk_at "my no"); (case U => assumption); (case F => assumption); (case R => assumption); (case S => walk_at "my sub")))
local macro_rules | `(tactic| walk_at "call ref") => `(tactic| (k_here; (with_reducible show wpAny _ _ (call (Value.ref 157) [] _) _ _ _); k_dflt (refine' c_mlK _ _ _ _ _ _ _ _ _ _ _ _ _  _ _ _ _ _ _ _ _ _ _ _ _ _ _ _ _ ?k1 ?k2 ?k3 ?k4 ?k5 ?kK ?kd ?ku  ?_ ?_; (case k1 => k_asm); (case k2 => k_asm); (case k3 => k_asm); (case k4 => k_asm); (case k5 => k_asm);  (case kK => first | exact rfl | assumption); (case kd => walk_at "my room"); (case ku => walk_at "my room"); (focus (unfold Bck; intro v9 n9 h' tk' F' N' r9; obtain ⟨x9, dx9, y9, dy9, k1, k2, k3, k4, k5, ka, kb, ta9, tm9, e9, e8, l1, lx1, lx2, lx3, hfa, hfm⟩ := r9; subst e9; subst e8; (try k_lt l1); unfold belowN at lx1 lx2 lx3; (try dsimp only); (try k_fold))); rotate_left; (focus (unfold Rai; intro n9 r9; obtain ⟨e9, hno⟩ := r9; subst e9; intro g' e' t' vs' h' tk' FG' R' U'; (try dsimp only); (try k_fold))); rotate_left)))
local macro_rules | `(tactic| walk_at "my no") => `(tactic| exact True.intro)
set_option maxHeartbeats 8000000 in
theorem c_fromS1 (w : World) (mean : ExcName → Option Value) (mg mb : Str → Option Value) (news : List (Addr × Obj)) (q : Addr) (x : Str) (u1 : Tok) (b2 : Array UInt8) (u2 : Tok) (hq : (q, methodObj (.ref 144) (.ref 157)) ∈ news) :
    Does 25 w mean mg mb q [.str x u1, .bytes b2 u2] [] news (fun _ _ => False) (fun nx => nx = news ∧ True) := by
  intro dp un cn cs a ccd cl outer A₀ base h₀ L m s Q E B F K N T hk hdp hun hret hraise
  refine wpAny_call (method_call (N _ hq).1 ?_)
  walk_at "my enter"
  k_steps
  walk_at "my raise"
set_option maxHeartbeats 8000000 in
theorem c_fromL1 (w : World) (mean : ExcName → Option Value) (mg mb : Str → Option Value) (news : List (Addr × Obj)) (q : Addr) (l : Addr) (vs : List Value) (n : Nat) (b2 : Array UInt8) (u2 : Tok) (hq : (q, methodObj (.ref 144) (.ref 157)) ∈ news) (hl : (l, listOf (List.toArray vs) n) ∈ news) :
    Does 25 w mean mg mb q [.ref l, .bytes b2 u2] [] news (fun _ _ => False) (fun nx => nx = news ∧ True) := by
  intro dp un cn cs a ccd cl outer A₀ base h₀ L m s Q E B F K N T hk hdp hun hret hraise
  refine wpAny_call (method_call (N _ hq).1 ?_)
  walk_at "my enter"
  k_steps
  walk_at "my raise"
set_option maxHeartbeats 8000000 in
theorem c_fromS2 (w : World) (mean : ExcName → Option Value) (mg mb : Str → Option Value) (news : List (Addr × Obj)) (q : Addr) (b1 : Array UInt8) (u1 : Tok) (x : Str) (u2 : Tok) (hq : (q, methodObj (.ref 144) (.ref 157)) ∈ news) :
    Does 25 w mean mg mb q [.bytes b1 u1, .str x u2] [] news (fun _ _ => False) (fun nx => nx = news ∧ True) := by
  intro dp un cn cs a ccd cl outer A₀ base h₀ L m s Q E B F K N T hk hdp hun hret hraise
  refine wpAny_call (method_call (N _ hq).1 ?_)
  walk_at "my enter"
  k_steps
  walk_at "my raise"
set_option maxHeartbeats 8000000 in
theorem c_fromL2 (w : World) (mean : ExcName → Option Value) (mg mb : Str → Option Value) (news : List (Addr × Obj)) (q : Addr) (b1 : Array UInt8) (u1 : Tok) (l : Addr) (vs : List Value) (n : Nat) (hq : (q, methodObj (.ref 144) (.ref 157)) ∈ news) (hl : (l, listOf (List.toArray vs) n) ∈ news) :
    Does 25 w mean mg mb q [.bytes b1 u1, .ref l] [] news (fun _ _ => False) (fun nx => nx = news ∧ True) := by
  intro dp un cn cs a ccd cl outer A₀ base h₀ L m s Q E B F K N T hk hdp hun hret hraise
  refine wpAny_call (method_call (N _ hq).1 ?_)
  walk_at "my enter"
  k_steps
  walk_at "my raise"
end
/-- the lines that were read for the part above are not those of the next one -/
theorem pause_Z12 : True ∧ True := by first | (walk1; fail) | (w_top off; exact ⟨trivial, trivial⟩)
section
theorem fill_Z13 : (PySem.Challenge.rw_fe0333_02, hd.heap_39) = (PySem.Challenge.rw_fe0333_02, hd.heap_39) := by k_fill; rfl
local macro_rules | `(tactic| walk_at "binaryOp Pow int int") => `(tactic| (k_here; (with_reducible refine pow_int_small ?kb1 ?kb2 ?kb3 ?_); (case kb1 => first | decide | exact fmod_nn _ (by decide)); (case kb2 => first | decide | exact fmod_le6 _ (by decide) (by decide)); (case kb3 => decide)))
local macro_rules | `(tactic| walk_at "getMethod ref") => `(tactic| (k_here; (with_reducible show wpAny _ _ (getMethod (Value.ref 57) (Str.ofString "keys") _) _ _ _); refine keys_get (keyed57 (by k_asm)) (by k_asm) ?_))
local macro_rules | `(tactic| walk_at "getMethod ref") => `(tactic| (k_here; (with_reducible show wpAny _ _ (getMethod (Value.ref 58) (Str.ofString "keys") _) _ _ _); refine keys_get (keyed58 (by k_asm)) (by k_asm) ?_))
local macro_rules | `(tactic| walk_at "call builtin:dict.keys") => `(tactic| (k_here; (with_reducible show wpAny _ _ (call (Value.builtin "dict.keys") [Value.ref _]) _ _ _); (first | (refine keys_call (keyed57 (by k_asm)) (by k_asm) (by k_asm) ?_) | (refine keys_call (keyed58 (by k_asm)) (by k_asm) (by k_asm) ?_)); intro V' h' F' N' l1; (try k_lt l1)))
local macro_rules | `(tactic| walk_at "call type:list") => `(tactic| (k_here; (with_reducible show wpAny _ _ (call (Value.type _) [Value.ref _]) _ _ _); (first | (refine keys_list (keyed57 (by k_asm)) rfl (by k_asm) (by k_asm) (by k_mem) ?_) | (refine keys_list (keyed58 (by k_asm)) rfl (by k_asm) (by k_asm) (by k_mem) ?_)); intro B' c' h' tk' t1 t2 t3 t4 t5 t6 t7 t8 F' N' l1; (try k_lt l1)))
local macro_rules | `(tactic| walk_at "binaryOp Mod str ref") => `(tactic| (k_here; (with_reducible show wpAny _ _ (binaryOp Operator.Mod (Value.str (Str.ofString "address_format must be an integer selected from : %s ") _) (Value.ref _)) _ _ _); refine' text1 ?a1 ?a2 ?a3 ?g ?u ?_; (case a1 => k_asm); (case a2 => k_asm); (case a3 => k_mem); (case g => (first | (simp only [guards_deeper, guards_make]; done) | ((try simp only [guards_deeper, guards_make]); rfl))); (case u => (have hc9 := cLine_is; (try simp only [units_make, units_deeper, units_in1]); (try dsimp only [ktrTop]); omega)); intro t' h' tk' F' N'))
local macro_rules | `(tactic| walk_at "binaryOp Mod str ref") => `(tactic| (k_here; (with_reducible show wpAny _ _ (binaryOp Operator.Mod (Value.str (Str.ofString "memorysize_format must be an integer selected from : %s") _) (Value.ref _)) _ _ _); refine' text2 ?a1 ?a2 ?a3 ?g ?u ?_; (case a1 => k_asm); (case a2 => k_asm); (case a3 => k_mem); (case g => (first | (simp only [guards_deeper, guards_make]; done) | ((try simp only [guards_deeper, guards_make]); rfl))); (case u => (have hc9 := cLine_is; (try simp only [units_make, units_deeper, units_in1]); (try dsimp only [ktrTop]); omega)); intro t' h' tk' F' N'))
local macro_rules | `(tactic| walk_at "my enter") => `(tactic| k_dflt (refine' code_def ?k1 ?k2 ?k3 ?k4 ?k5 ?kA ?kF ?kK ?k6 ?k7 ?k8 ?k9 ?kB ?_ ?c2 ?c3 ?c4 ?c5; (case kA => exact rfl); (case kF => exact rfl); (case kK => first | assumption | exact rfl); (case k1 => k_asm); (case k2 => k_asm); (case k3 => k_asm); (case k4 => k_asm); (case k5 => k_asm); (case k6 => k_is); (case k7 => k_is); (case k8 => ((try simp only [depth_make, depth_deeper, depth_in1]); (try dsimp only [ktrTop]); omega)); (case k9 => first | exact BindsTo.of_eq rfl | exact binds_K (by k_in) rfl (by k_is) rfl rfl rfl); (case c5 => decide); (case kB => exact locs rfl); (case c2 => exact rfl); (case c3 => exact rfl); (case c4 => exact rfl); k_whole; intro g' L' h' FG' F' N' B' X' T'; (try dsimp only); (try k_fold)))
local macro_rules | `(tactic| walk_at "my make") => `(tactic| (k_dflt (refine' call_cls ?k1 ?k2 ?k3 ?k4 ?k5 ?k6 ?_; (case k1 => k_asm); (case k2 => k_asm); (case k3 => k_asm); (case k4 => k_is); (case k5 => k_is); (case k6 => k_is); k_whole; intro x' d' h' F' N' l1 l2; (try k_lt l1); (try k_lt2 l2); (try k_sweep)); walk_at "my enter"))
local macro_rules | `(tactic| walk_at "my room") => `(tactic| first | ((try simp only [depth_make, depth_deeper, depth_in1, units_make, units_deeper, units_in1]); (try dsimp only [ktrTop]); omega) | decide | (with_unfolding_all decide))
local macro_rules | `(tactic| walk_at "leaving ref") => `(tactic| (k_here; first | (refine' leave_raiseS ?k1 ?k0 ?k2 ?k3 ?_; (case k0 => first | assumption | exact Heap.MadeExc.of (by assumption)); (case k2 => assumption); (case k1 => assumption); (case k3 => k_asm); k_whole; intro h' t' S' R' U'; (try dsimp only at S' R' U' ⊢)) | (refine' leave_onS ?k1 ?k2 ?k3 ?k4 ?_; (case k3 => assumption); (case k2 => assumption); (case k1 => assumption); (case k4 => assumption); k_whole; intro h' S' R' U'; (try dsimp only at S' R' U' ⊢))))
local macro_rules | `(tactic| walk_at "my sub") => `(tactic| ((repeat' (refine List.forall_mem_cons.mpr ⟨by k_mem, ?_⟩)); (intro p hp; repeat (first | exact hp | apply List.Mem.tail))))
local macro_rules | `(tactic| walk_at "my no") => `(tactic| first | assumption | exact and_no1 (by assumption) | exact and_no2 (by assumption) | exact and_no1 (no8 (by assumption)) | exact and_no2 (no8 (by assumption)))
local macro_rules | `(tactic| walk_at "my raise") => `(tactic| ((try dsimp only [InitBack]); refine' Rai.use2 ?H ?C ?U ?F ?R ?S; (case H => assumption); (case C => walk_at "my no"); (case U => assumption); (case F => assumption); (case R => assumption); (case S => walk_at "my sub")))
local macro_rules | `(tactic| walk_at "callWith ref nil") => `(tactic| (k_here; k_dflt (refine' callWith_KW0 ?k1 ?k2 ?k3 ?_; (case k1 => k_asm); (case k2 => k_is); (case k3 => exact rfl); k_whole)))
local macro_rules | `(tactic| walk_at "my enterr") => `(tactic| k_dflt (refine' enter_raw ?k1 ?k2 ?k3 ?k4 ?k5 ?kA ?kF ?kK ?k6 ?k7 ?k8 ?k9 ?kB ?_ ?c2 ?c3 ?c4 ?c5; (case kA => exact rfl); (case kF => exact rfl); (case kK => first | assumption | exact rfl); (case k1 => k_asm); (case k2 => k_asm); (case k3 => k_asm); (case k4 => k_asm); (case k5 => k_asm); (case k6 => k_is); (case k7 => k_is); (case k8 => ((try simp only [depth_make, depth_deeper, depth_in1]); (try dsimp only [ktrTop]); omega)); (case k9 => first | exact BindsTo.of_eq rfl | exact binds_K (by k_in) rfl (by k_is) rfl rfl rfl); (case c5 => decide); (case kB => exact locs rfl); (case c2 => exact rfl); (case c3 => exact rfl); (case c4 => exact rfl); k_whole; intro g' L' h' FG' F' N' B' X' T'; (try dsimp only); (try k_fold)))
local macro_rules | `(tactic| walk_at "my catchV") => `(tactic| (refine' caught_S0 (T' := "ValueError") ?R ?F ?K ?U ?XB ?TB ?D ?T0 ?ex PyProof.Rows.Boot.«ValueError» ?hn PySem.F.isExc_ValueError PySem.F.notTuple_ValueError ?hs ?_; (case R => assumption); (case U => assumption); (case F => assumption); (case K => assumption); (case XB => exact Ground9.inK (by assumption)); (case TB => exact Ground9.top (by assumption)); (case D => exact dicts_one (by assumption)); (case T0 => exact KtsTurn.refl); (case hs => kts_sub); (case ex => k_is); (case hn => decide); k_whole; intro h' g' n₂ Tn' F' N₂ G' N' B' X' P' D'))
local macro_rules | `(tactic| walk_at "my exit") => `(tactic| (first | (obtain ⟨F0, N0⟩ := exit_turn (by assumption) (by assumption : KtsTurn _ _ _) (by assumption) (by assumption)) | (obtain ⟨F0, N0⟩ := exit_turn (by assumption) KtsTurn.refl (by assumption) (by assumption))))
local macro_rules | `(tactic| walk_at "call ref") => `(tactic| (k_here; (with_reducible show wpAny _ _ (call (Value.ref _) [Value.str _ _, Value.bytes _ _] _) _ _ _); k_dflt (refine' c_fromS1 _ _ _ _ _ _ _ _ _ _ ?hq _ _ _ _ _ _ _ _ _ _ _ _ _ _ _ _ ?k1 ?k2 ?k3 ?k4 ?k5 ?kK ?kd ?ku  ?_ ?_; (case k1 => k_asm); (case k2 => k_asm); (case k3 => k_asm); (case k4 => k_asm); (case k5 => k_asm); (case hq => k_mem); (case kK => first | exact rfl | assumption); (case kd => walk_at "my room"); (case ku => walk_at "my room"); (focus (unfold Bck; intro v9 n9 h' tk' F' N' r9; (exact r9.elim))); (focus (unfold Rai; intro n9 r9; obtain ⟨e9, _⟩ := r9; subst e9; intro g' e' t' vs' h' tk' FG' R' U'; (try dsimp only); (try k_fold))); rotate_left)))
local macro_rules | `(tactic| walk_at "call ref") => `(tactic| (k_here; (with_reducible show wpAny _ _ (call (Value.ref _) [Value.ref _, Value.bytes _ _] _) _ _ _); k_dflt (refine' c_fromL1 _ _ _ _ _ _ _ _ _ _ _ ?hq ?hl _ _ _ _ _ _ _ _ _ _ _ _ _ _ _ _ ?k1 ?k2 ?k3 ?k4 ?k5 ?kK ?kd ?ku  ?_ ?_; (case k1 => k_asm); (case k2 => k_asm); (case k3 => k_asm); (case k4 => k_asm); (case k5 => k_asm); (case hq => k_mem); (case hl => first | k_mem | exact List.Mem.tail _ (by assumption)); (case kK => first | exact rfl | assumption); (case kd => walk_at "my room"); (case ku => walk_at "my room"); (focus (unfold Bck; intro v9 n9 h' tk' F' N' r9; (exact r9.elim))); (focus (unfold Rai; intro n9 r9; obtain ⟨e9, _⟩ := r9; subst e9; intro g' e' t' vs' h' tk' FG' R' U'; (try dsimp only); (try k_fold))); rotate_left)))
local macro_rules | `(tactic| walk_at "call ref") => `(tactic| (k_here; (with_reducible show wpAny _ _ (call (Value.ref _) [Value.bytes _ _, Value.str _ _] _) _ _ _); k_dflt (refine' c_fromS2 _ _ _ _ _ _ _ _ _ _ ?hq _ _ _ _ _ _ _ _ _ _ _ _ _ _ _ _ ?k1 ?k2 ?k3 ?k4 ?k5 ?kK ?kd ?ku  ?_ ?_; (case k1 => k_asm); (case k2 => k_asm); (case k3 => k_asm); (case k4 => k_asm); (case k5 => k_asm); (case hq => k_mem); (case kK => first | exact rfl | assumption); (case kd => walk_at "my room"); (case ku => walk_at "my room"); (focus (unfold Bck; intro v9 n9 h' tk' F' N' r9; (exact r9.elim))); (focus (unfold Rai; intro n9 r9; obtain ⟨e9, _⟩ := r9; subst e9; intro g' e' t' vs' h' tk' FG' R' U'; (try dsimp only); (try k_fold))); rotate_left)))
local macro_rules | `(tactic| walk_at "call ref") => `(tactic| (k_here; (with_reducible show wpAny _ _ (call (Value.ref _) [Value.bytes _ _, Value.ref _] _) _ _ _); k_dflt (refine' c_fromL2 _ _ _ _ _ _ _ _ _ _ _ ?hq ?hl _ _ _ _ _ _ _ _ _ _ _ _ _ _ _ _ ?k1 ?k2 ?k3 ?k4 ?k5 ?kK ?kd ?ku  ?_ ?_; (case k1 => k_asm); (case k2 => k_asm); (case k3 => k_asm); (case k4 => k_asm); (case k5 => k_asm); (case hq => k_mem); (case hl => first | k_mem | exact List.Mem.tail _ (by assumption)); (case kK => first | exact rfl | assumption); (case kd => walk_at "my room"); (case ku => walk_at "my room"); (focus (unfold Bck; intro v9 n9 h' tk' F' N' r9; (exact r9.elim))); (focus (unfold Rai; intro n9 r9; obtain ⟨e9, _⟩ := r9; subst e9; intro g' e' t' vs' h' tk' FG' R' U'; (try dsimp only); (try k_fold))); rotate_left)))
set_option maxHeartbeats 8000000 in
theorem c_readS1 (w : World) (mean : ExcName → Option Value) (mg mb : Str → Option Value) (tl : List (Addr × Obj)) (x : Str) (u1 : Tok) (b2 : Array UInt8) (u2 : Tok) :
    DoesL 40 w mean mg mb 201 [.str x u1, .bytes b2 u2] [] tl (fun r news' => ∃ l nl, r = .ref l ∧ news' = (l, listOf #[] nl) :: tl ∧ (∀ p ∈ tl, @LT.lt Nat _ p.1 l)) := by
  intro dp un cn cs a ccd cl A₀ h₀ L m s Q E B F K N T hk hdp hun hret
  have GB := ground9_of K T
  refine wpAny_call ?_
  walk_at "my enterr"
  k_steps
  walk_at "my catchV"
  k_steps
  exact exit_use hret (by assumption) (by assumption) (news_by (by assumption) fun p hp => skip1 hp) (by assumption) ⟨_, _, rfl, rfl, fun p hp => allLt_mem (by assumption : _ ∧ AllLt _ tl).2 p hp⟩
set_option maxHeartbeats 8000000 in
theorem c_readL1 (w : World) (mean : ExcName → Option Value) (mg mb : Str → Option Value) (tl : List (Addr × Obj)) (l : Addr) (vs : List Value) (n : Nat) (b2 : Array UInt8) (u2 : Tok) (hl : (l, listOf (List.toArray vs) n) ∈ tl) :
    DoesL 40 w mean mg mb 201 [.ref l, .bytes b2 u2] [] tl (fun r news' => ∃ l nl, r = .ref l ∧ news' = (l, listOf #[] nl) :: tl ∧ (∀ p ∈ tl, @LT.lt Nat _ p.1 l)) := by
  intro dp un cn cs a ccd cl A₀ h₀ L m s Q E B F K N T hk hdp hun hret
  have GB := ground9_of K T
  refine wpAny_call ?_
  walk_at "my enterr"
  k_steps
  walk_at "my catchV"
  k_steps
  exact exit_use hret (by assumption) (by assumption) (news_by (by assumption) fun p hp => skip1 hp) (by assumption) ⟨_, _, rfl, rfl, fun p hp => allLt_mem (by assumption : _ ∧ AllLt _ tl).2 p hp⟩
set_option maxHeartbeats 8000000 in
theorem c_readS2 (w : World) (mean : ExcName → Option Value) (mg mb : Str → Option Value) (tl : List (Addr × Obj)) (b1 : Array UInt8) (u1 : Tok) (x : Str) (u2 : Tok) :
    DoesL 40 w mean mg mb 201 [.bytes b1 u1, .str x u2] [] tl (fun r news' => ∃ l nl, r = .ref l ∧ news' = (l, listOf #[] nl) :: tl ∧ (∀ p ∈ tl, @LT.lt Nat _ p.1 l)) := by
  intro dp un cn cs a ccd cl A₀ h₀ L m s Q E B F K N T hk hdp hun hret
  have GB := ground9_of K T
  refine wpAny_call ?_
  walk_at "my enterr"
  k_steps
  walk_at "my catchV"
  k_steps
  exact exit_use hret (by assumption) (by assumption) (news_by (by assumption) fun p hp => skip1 hp) (by assumption) ⟨_, _, rfl, rfl, fun p hp => allLt_mem (by assumption : _ ∧ AllLt _ tl).2 p hp⟩
set_option maxHeartbeats 8000000 in
theorem c_readL2 (w : World) (mean : ExcName → Option Value) (mg mb : Str → Option Value) (tl : List (Addr × Obj)) (b1 : Array UInt8) (u1 : Tok) (l : Addr) (vs : List Value) (n : Nat) (hl : (l, listOf (List.toArray vs) n) ∈ tl) :
    DoesL 40 w mean mg mb 201 [.bytes b1 u1, .ref l] [] tl (fun r news' => ∃ l nl, r = .ref l ∧ news' = (l, listOf #[] nl) :: tl ∧ (∀ p ∈ tl, @LT.lt Nat _ p.1 l)) := by
  intro dp un cn cs a ccd cl A₀ h₀ L m s Q E B F K N T hk hdp hun hret
  have GB := ground9_of K T
  refine wpAny_call ?_
  walk_at "my enterr"
  k_steps
  walk_at "my catchV"
  k_steps
  exact exit_use hret (by assumption) (by assumption) (news_by (by assumption) fun p hp => skip1 hp) (by assumption) ⟨_, _, rfl, rfl, fun p hp => allLt_mem (by assumption : _ ∧ AllLt _ tl).2 p hp⟩
end
/-- the lines that were read for the part above are not those of the next one -/
theorem pause_Z13 : True ∧ True := by first | (walk1; fail) | (w_top off; exact ⟨trivial, trivial⟩)
section
theorem fill_Z14 : (PySem.Challenge.rw_fe0333_02, hd.heap_39) = (PySem.Challenge.rw_fe0333_02, hd.heap_39) := by k_fill; rfl
local macro_rules | `(tactic| walk_at "binaryOp Pow int int") => `(tactic| (k_here; (with_reducible refine pow_int_small ?kb1 ?kb2 ?kb3 ?_); (case kb1 => first | decide | exact fmod_nn _ (by decide)); (case kb2 => first | decide | exact fmod_le6 _ (by decide) (by decide)); (case kb3 => decide)))
local macro_rules | `(tactic| walk_at "getMethod ref") => `(tactic| (k_here; (with_reducible show wpAny _ _ (getMethod (Value.ref 57) (Str.ofString "keys") _) _ _ _); refine keys_get (keyed57 (by k_asm)) (by k_asm) ?_))
local macro_rules | `(tactic| walk_at "getMethod ref") => `(tactic| (k_here; (with_reducible show wpAny _ _ (getMethod (Value.ref 58) (Str.ofString "keys") _) _ _ _); refine keys_get (keyed58 (by k_asm)) (by k_asm) ?_))
local macro_rules | `(tactic| walk_at "call builtin:dict.keys") => `(tactic| (k_here; (with_reducible show wpAny _ _ (call (Value.builtin "dict.keys") [Value.ref _]) _ _ _); (first | (refine keys_call (keyed57 (by k_asm)) (by k_asm) (by k_asm) ?_) | (refine keys_call (keyed58 (by k_asm)) (by k_asm) (by k_asm) ?_)); intro V' h' F' N' l1; (try k_lt l1)))
local macro_rules | `(tactic| walk_at "call type:list") => `(tactic| (k_here; (with_reducible show wpAny _ _ (call (Value.type _) [Value.ref _]) _ _ _); (first | (refine keys_list (keyed57 (by k_asm)) rfl (by k_asm) (by k_asm) (by k_mem) ?_) | (refine keys_list (keyed58 (by k_asm)) rfl (by k_asm) (by k_asm) (by k_mem) ?_)); intro B' c' h' tk' t1 t2 t3 t4 t5 t6 t7 t8 F' N' l1; (try k_lt l1)))
local macro_rules | `(tactic| walk_at "binaryOp Mod str ref") => `(tactic| (k_here; (with_reducible show wpAny _ _ (binaryOp Operator.Mod (Value.str (Str.ofString "address_format must be an integer selected from : %s ") _) (Value.ref _)) _ _ _); refine' text1 ?a1 ?a2 ?a3 ?g ?u ?_; (case a1 => k_asm); (case a2 => k_asm); (case a3 => k_mem); (case g => (first | (simp only [guards_deeper, guards_make]; done) | ((try simp only [guards_deeper, guards_make]); rfl))); (case u => (have hc9 := cLine_is; (try simp only [units_make, units_deeper, units_in1]); (try dsimp only [ktrTop]); omega)); intro t' h' tk' F' N'))
local macro_rules | `(tactic| walk_at "binaryOp Mod str ref") => `(tactic| (k_here; (with_reducible show wpAny _ _ (binaryOp Operator.Mod (Value.str (Str.ofString "memorysize_format must be an integer selected from : %s") _) (Value.ref _)) _ _ _); refine' text2 ?a1 ?a2 ?a3 ?g ?u ?_; (case a1 => k_asm); (case a2 => k_asm); (case a3 => k_mem); (case g => (first | (simp only [guards_deeper, guards_make]; done) | ((try simp only [guards_deeper, guards_make]); rfl))); (case u => (have hc9 := cLine_is; (try simp only [units_make, units_deeper, units_in1]); (try dsimp only [ktrTop]); omega)); intro t' h' tk' F' N'))
local macro_rules | `(tactic| walk_at "my enter") => `(tactic| k_dflt (refine' code_def ?k1 ?k2 ?k3 ?k4 ?k5 ?kA ?kF ?kK ?k6 ?k7 ?k8 ?k9 ?kB ?_ ?c2 ?c3 ?c4 ?c5; (case kA => exact rfl); (case kF => exact rfl); (case kK => first | assumption | exact rfl); (case k1 => k_asm); (case k2 => k_asm); (case k3 => k_asm); (case k4 => k_asm); (case k5 => k_asm); (case k6 => k_is); (case k7 => k_is); (case k8 => ((try simp only [depth_make, depth_deeper, depth_in1]); (try dsimp only [ktrTop]); omega)); (case k9 => first | exact BindsTo.of_eq rfl | exact binds_K (by k_in) rfl (by k_is) rfl rfl rfl); (case c5 => decide); (case kB => exact locs rfl); (case c2 => exact rfl); (case c3 => exact rfl); (case c4 => exact rfl); k_whole; intro g' L' h' FG' F' N' B' X' T'; (try dsimp only); (try k_fold)))
local macro_rules | `(tactic| walk_at "my make") => `(tactic| (k_dflt (refine' call_cls ?k1 ?k2 ?k3 ?k4 ?k5 ?k6 ?_; (case k1 => k_asm); (case k2 => k_asm); (case k3 => k_asm); (case k4 => k_is); (case k5 => k_is); (case k6 => k_is); k_whole; intro x' d' h' F' N' l1 l2; (try k_lt l1); (try k_lt2 l2); (try k_sweep)); walk_at "my enter"))
local macro_rules | `(tactic| walk_at "my room") => `(tactic| first | ((try simp only [depth_make, depth_deeper, depth_in1, units_make, units_deeper, units_in1]); (try dsimp only [ktrTop]); omega) | decide | (with_unfolding_all decide))
local macro_rules | `(tactic| walk_at "leaving ref") => `(tactic| (k_here; first | (refine' leave_raiseS ?k1 ?k0 ?k2 ?k3 ?_; (case k0 => first | assumption | exact Heap.MadeExc.of (by assumption)); (case k2 => assumption); (case k1 => assumption); (case k3 => k_asm); k_whole; intro h' t' S' R' U'; (try dsimp only at S' R' U' ⊢)) | (refine' leave_onS ?k1 ?k2 ?k3 ?k4 ?_; (case k3 => assumption); (case k2 => assumption); (case k1 => assumption); (case k4 => assumption); k_whole; intro h' S' R' U'; (try dsimp only at S' R' U' ⊢))))
local macro_rules | `(tactic| walk_at "my sub") => `(tactic| ((repeat' (refine List.forall_mem_cons.mpr ⟨by k_mem, ?_⟩)); (intro p hp; repeat (first | exact hp | apply List.Mem.tail))))
local macro_rules | `(tactic| walk_at "my no") => `(tactic| first | assumption | exact and_no1 (by assumption) | exact and_no2 (by assumption) | exact and_no1 (no8 (by assumption)) | exact and_no2 (no8 (by assumption)))
local macro_rules | `(tactic| walk_at "my raise") => `(tactic| ((try dsimp only [InitBack]); refine' Rai.use2 ?H ?C ?U ?F ?R ?S; (case H => assumption); (case C => walk_at "my no"); (case U => assumption); (case F => assumption); (case R => assumption); (case S => walk_at "my sub")))
local macro_rules | `(tactic| walk_at "callWith ref nil") => `(tactic| (k_here; k_dflt (refine' callWith_KW0 ?k1 ?k2 ?k3 ?_; (case k1 => k_asm); (case k2 => k_is); (case k3 => exact rfl); k_whole)))
local macro_rules | `(tactic| walk_at "my enterr") => `(tactic| k_dflt (refine' enter_raw ?k1 ?k2 ?k3 ?k4 ?k5 ?kA ?kF ?kK ?k6 ?k7 ?k8 ?k9 ?kB ?_ ?c2 ?c3 ?c4 ?c5; (case kA => exact rfl); (case kF => exact rfl); (case kK => first | assumption | exact rfl); (case k1 => k_asm); (case k2 => k_asm); (case k3 => k_asm); (case k4 => k_asm); (case k5 => k_asm); (case k6 => k_is); (case k7 => k_is); (case k8 => ((try simp only [depth_make, depth_deeper, depth_in1]); (try dsimp only [ktrTop]); omega)); (case k9 => first | exact BindsTo.of_eq rfl | exact binds_K (by k_in) rfl (by k_is) rfl rfl rfl); (case c5 => decide); (case kB => exact locs rfl); (case c2 => exact rfl); (case c3 => exact rfl); (case c4 => exact rfl); k_whole; intro g' L' h' FG' F' N' B' X' T'; (try dsimp only); (try k_fold)))
local macro_rules | `(tactic| walk_at "my catchV") => `(tactic| (refine' caught_S0 (T' := "ValueError") ?R ?F ?K ?U ?XB ?TB ?D ?T0 ?ex PyProof.Rows.Boot.«ValueError» ?hn PySem.F.isExc_ValueError PySem.F.notTuple_ValueError ?hs ?_; (case R => assumption); (case U => assumption); (case F => assumption); (case K => assumption); (case XB => exact Ground9.inK (by assumption)); (case TB => exact Ground9.top (by assumption)); (case D => exact dicts_one (by assumption)); (case T0 => exact KtsTurn.refl); (case hs => kts_sub); (case ex => k_is); (case hn => decide); k_whole; intro h' g' n₂ Tn' F' N₂ G' N' B' X' P' D'))
local macro_rules | `(tactic| walk_at "my exit") => `(tactic| (first | (obtain ⟨F0, N0⟩ := exit_turn (by assumption) (by assumption : KtsTurn _ _ _) (by assumption) (by assumption)) | (obtain ⟨F0, N0⟩ := exit_turn (by assumption) KtsTurn.refl (by assumption) (by assumption))))
local macro_rules | `(tactic| walk_at "call ref") => `(tactic| (k_here; (with_reducible show wpAny _ _ (call (Value.ref 157) [Value.int _ _, Value.int _ _] _) _ _ _); k_dflt (refine' c_ml2 _ _ _ _ _ _ _ _ _  _ _ _ _ _ _ _ _ _ _ _ _ _ _ _ _ ?k1 ?k2 ?k3 ?k4 ?k5 ?kK ?kd ?ku  ?_ ?_; (case k1 => k_asm); (case k2 => k_asm); (case k3 => k_asm); (case k4 => k_asm); (case k5 => k_asm);  (case kK => first | exact rfl | assumption); (case kd => walk_at "my room"); (case ku => walk_at "my room"); (focus (unfold Bck; intro v9 n9 h' tk' F' N' r9; obtain ⟨x9, dx9, y9, dy9, k1, k2, k3, k4, k5, ka, kb, ta9, tm9, e9, e8, l1, lx1, lx2, lx3, hfa, hfm⟩ := r9; subst e9; subst e8; (try k_lt l1); unfold belowN at lx1 lx2 lx3; (try dsimp only); (try k_fold))); rotate_left; (focus (unfold Rai; intro n9 r9; obtain ⟨e9, hno⟩ := r9; subst e9; intro g' e' t' vs' h' tk' FG' R' U'; (try dsimp only); (try k_fold))); rotate_left)))
set_option maxHeartbeats 8000000 in
theorem c_made2 (w : World) (mean : ExcName → Option Value) (mg mb : Str → Option Value) (tl : List (Addr × Obj)) (v1 v2 : Int) (ta tm : Tok) :
    DoesL 40 w mean mg mb 208 [.int v1 ta, .int v2 tm] [] tl
      (fun r news' => (∃ l nl, r = .ref l ∧ (ok8 (fmtOf none v1) && ok8 (fmtOf none v2)) = false ∧ news' = (l, listOf #[] nl) :: tl ∧ (∀ p ∈ tl, @LT.lt Nat _ p.1 l)) ∨
        (∃ l nl x dx y dy k1 k2 k3 k4 k5 ka kb ta' tm', r = .ref l ∧ ok8 (fmtOf none v1) = true ∧ ok8 (fmtOf none v2) = true ∧
          news' = (l, listOf #[.ref x] nl) :: (y, instObj 82 dy) :: (dy, dAl w (fmtOf none v2) (fmtOf none v1) ka kb tm' ta') :: (x, instObj 157 dx) :: (dx, dML w v1 v2 (cellV none 0) (cellV none 0) y k1 k2 k3 k4 k5 ta tm) :: tl ∧
          (∀ p ∈ tl, @LT.lt Nat _ p.1 dx) ∧ belowN dx x ∧ belowN x dy ∧ belowN dy y ∧ belowN y l)) := by
  intro dp un cn cs a ccd cl A₀ h₀ L m s Q E B F K N T hk hdp hun hret
  have GB := ground9_of K T
  refine wpAny_call ?_
  walk_at "my enterr"
  k_steps
  · exact exit_use hret (by assumption) (by assumption) (by assumption) KtsTurn.refl (.inr ⟨_, _, _, _, _, _, _, _, _, _, _, _, _, _, _, rfl, by assumption, by assumption, rfl, by assumption, by (unfold belowN; omega), by (unfold belowN; omega), by (unfold belowN; omega), by (unfold belowN; omega)⟩)
  · walk_at "my catchV"
    k_steps
    exact exit_use hret (by assumption) (by assumption) (by assumption) (by assumption) (.inl ⟨_, _, rfl, by assumption, rfl, by assumption⟩)
end
/-- the lines that were read for the part above are not those of the next one -/
theorem pause_Z14 : True ∧ True := by first | (walk1; fail) | (w_top off; exact ⟨trivial, trivial⟩)
section
theorem fill_Z16 : (PySem.Challenge.rw_fe0333_02, hd.heap_39) = (PySem.Challenge.rw_fe0333_02, hd.heap_39) := by k_fill; rfl
def Octs (ns : List Int) : Prop := ∀ d ∈ ns, 0 ≤ d ∧ d < 256
theorem Octs.left {a b : List Int} (h : Octs (a ++ b)) : Octs a := fun d hd => h d (List.mem_append.mpr (.inl hd))
theorem Octs.right {a b : List Int} (h : Octs (a ++ b)) : Octs b := fun d hd => h d (List.mem_append.mpr (.inr hd))
theorem snoc_ind {P : List Int → Prop} (h0 : P []) (h1 : ∀ l d, P l → P (l ++ [d])) (l : List Int) : P l := by
  have key : ∀ k (l : List Int), l.length = k → P l := by
    intro k
    induction k with
    | zero => intro l hl; rw [List.eq_nil_of_length_eq_zero hl]; exact h0
    | succ k ih =>
      intro l hl
      have hne : l ≠ [] := fun e => by rw [e] at hl; cases hl
      rw [← List.dropLast_concat_getLast hne]
      exact h1 _ _ (ih _ (by rw [List.length_dropLast, hl]; rfl))
  exact key _ l rfl
theorem num_nn {ns : List Int} : Octs ns → 0 ≤ numOf ns := by
  refine snoc_ind (P := fun ns => Octs ns → 0 ≤ numOf ns) (fun _ => Int.le_refl 0) (fun l d ih h => ?_) ns
  have h1 := ih h.left
  have h2 := h.right d (.head _)
  rw [numOf_snoc]
  omega
theorem num_lt {ns : List Int} : Octs ns → numOf ns < 256 ^ ns.length := by
  refine snoc_ind (P := fun ns => Octs ns → numOf ns < 256 ^ ns.length) (fun _ => by decide) (fun l d ih h => ?_) ns
  have h1 := ih h.left
  have h2 := h.right d (.head _)
  rw [numOf_snoc, List.length_append, List.length_singleton, Int.pow_succ]
  omega
theorem digs_num {ns : List Int} : Octs ns → digs ns.length (numOf ns) = ns := by
  refine snoc_ind (P := fun ns => Octs ns → digs ns.length (numOf ns) = ns) (fun _ => rfl) (fun l d ih h => ?_) ns
  have h1 := ih h.left
  have h2 := h.right d (.head _)
  have e1 : (numOf l * 256 + d) / 256 = numOf l := by omega
  have e2 : (numOf l * 256 + d) % 256 = d := by omega
  rw [numOf_snoc, List.length_append, List.length_singleton, digs, e1, e2, h1]
theorem octs_bare {ns : List Int} (h : Octs ns) : Octs (bareOf ns) := fun d hd => h d ((List.dropWhile_sublist _).subset hd)
theorem bare_le (ns : List Int) : (bareOf ns).length ≤ ns.length := (List.dropWhile_sublist _).length_le
theorem num_bare : ∀ ns : List Int, numOf (bareOf ns) = numOf ns
  | [] => rfl
  | n :: ns => by
    unfold bareOf
    rw [List.dropWhile_cons]
    by_cases h : n = 0
    · rw [h, if_pos (by decide)]
      have := num_bare ns
      unfold bareOf at this
      rw [this]
      rfl
    · rw [if_neg (by simpa using h)]
/-- a row that opens with no nought -/
def Lead (ns : List Int) : Prop := ∀ d ∈ ns.head?, d ≠ 0
theorem lead_bare (ns : List Int) : Lead (bareOf ns) := by
  intro d hd
  unfold bareOf at hd
  have := List.head?_dropWhile_not (fun d : Int => d == 0) ns
  rw [Option.mem_def] at hd
  rw [hd] at this
  simpa using this
theorem lead_pos {ns : List Int} : Octs ns → Lead ns → ns ≠ [] → 0 < numOf ns := by
  refine snoc_ind (P := fun ns => Octs ns → Lead ns → ns ≠ [] → 0 < numOf ns) (fun _ _ h => absurd rfl h) (fun l d ih h hl _ => ?_) ns
  have h2 := h.right d (.head _)
  rw [numOf_snoc]
  by_cases e : l = []
  · subst e
    have : d ≠ 0 := hl d (by simp)
    show 0 < numOf [] * 256 + d
    have e0 : numOf [] = 0 := rfl
    omega
  · have := ih h.left (fun x hx => hl x (by rw [List.head?_append]; rw [Option.mem_def] at hx; rw [hx]; rfl)) e
    omega
theorem oc_num {ns : List Int} : Octs ns → Lead ns → oc (numOf ns) = ns.length := by
  refine snoc_ind (P := fun ns => Octs ns → Lead ns → oc (numOf ns) = ns.length) (fun _ _ => oc_zero) (fun l d ih h hl => ?_) ns
  have h2 := h.right d (.head _)
  have hp := lead_pos h hl (by simp)
  have hL : Lead l := fun x hx => hl x (by rw [List.head?_append]; rw [Option.mem_def] at hx; rw [hx]; rfl)
  have h1 := ih h.left hL
  rw [oc_step hp, numOf_snoc, Int.fdiv_eq_ediv_of_nonneg _ (by decide), show (numOf l * 256 + d) / 256 = numOf l by omega, h1, List.length_append, List.length_singleton]
  omega
theorem hex_len : ∀ (k : Nat) (n : Int), 0 ≤ n → n < 16 ^ (k + 1) → (hexOf n).length ≤ k + 1
  | 0, n, h0, h1 => by
    rw [hex_step h0, if_pos (by omega), digS_len]
    exact Nat.le_refl _
  | k + 1, n, h0, h1 => by
    rw [hex_step h0]
    by_cases h : n < 16
    · rw [if_pos h, digS_len]; omega
    · rw [if_neg h, PySem.Str.length_append, digS_len]
      have := hex_len k (n / 16) (by omega) (by rw [Int.pow_succ] at h1; omega)
      omega
theorem num_small {ns : List Int} (h : Octs ns) (hl : ns.length ≤ 7) : numOf ns < 256 ^ 7 := by
  have h1 := num_lt h
  have h2 : 256 ^ ns.length ≤ 256 ^ 7 := Nat.pow_le_pow_right (by decide) hl
  have h3 : ((256 ^ ns.length : Nat) : Int) = (256 : Int) ^ ns.length := by simp
  have h4 : ((256 ^ 7 : Nat) : Int) = (256 : Int) ^ 7 := by simp
  omega
theorem num_hex {ns : List Int} (h : Octs ns) (hl : ns.length ≤ 7) : (hexOf (numOf ns)).length ≤ 20 := by
  have := hex_len 13 (numOf ns) (num_nn h) (Int.lt_of_lt_of_le (num_small h hl) (by decide))
  omega
theorem strOk_app {a b : PySem.Str} (ha : PyData.strOk a = true) (hb : PyData.strOk b = true) : PyData.strOk (a ++ b) = true := by
  unfold PyData.strOk at *
  rw [PySem.Str.cps_append, Array.all_append, ha, hb]
  rfl
theorem strOk_dig {d : Int} (h0 : 0 ≤ d) (h : d < 16) : PyData.strOk (digS d) = true := by
  have e : d = 0 ∨ d = 1 ∨ d = 2 ∨ d = 3 ∨ d = 4 ∨ d = 5 ∨ d = 6 ∨ d = 7 ∨ d = 8 ∨ d = 9 ∨ d = 10 ∨ d = 11 ∨ d = 12 ∨ d = 13 ∨ d = 14 ∨ d = 15 := by omega
  rcases e with e | e | e | e | e | e | e | e | e | e | e | e | e | e | e | e <;> subst e <;> decide +kernel
theorem strOk_hex : ∀ (k : Nat) (n : Int), 0 ≤ n → n < 16 ^ (k + 1) → PyData.strOk (hexOf n) = true
  | 0, n, h0, h1 => by
    rw [hex_step h0, if_pos (by omega)]
    exact strOk_dig h0 (by omega)
  | k + 1, n, h0, h1 => by
    rw [hex_step h0]
    by_cases h : n < 16
    · rw [if_pos h]; exact strOk_dig h0 h
    · rw [if_neg h]
      exact strOk_app (strOk_hex k (n / 16) (by omega) (by rw [Int.pow_succ] at h1; omega)) (strOk_dig (by omega) (by omega))
theorem num_strOk {ns : List Int} (h : Octs ns) (hl : ns.length ≤ 7) : PyData.strOk (hexOf (numOf ns)) = true :=
  strOk_hex 13 (numOf ns) (num_nn h) (Int.lt_of_lt_of_le (num_small h hl) (by decide))
theorem strOk_bits {f : Int} (h : f = 8 ∨ f = 16 ∨ f = 24 ∨ f = 32 ∨ f = 40 ∨ f = 48 ∨ f = 56 ∨ f = 64) : PyData.strOk (PySem.Str.ofString (toString f)) = true := by
  rcases h with e | e | e | e | e | e | e | e <;> subst e <;> decide +kernel
theorem strOk_loc {x y m n : Int} (hx : PyData.strOk (hexOf x) = true) (hy : ok8 y = true) (hm : PyData.strOk (hexOf m) = true) (hn : ok8 n = true) : PyData.strOk (locText x y m n) = true := by
  unfold locText
  exact strOk_app (strOk_app (strOk_app (strOk_app (strOk_app (strOk_app (strOk_app (strOk_app (by decide +kernel) hx) (by decide +kernel)) (strOk_bits (ok8_cases hy))) (by decide +kernel)) hm) (by decide +kernel)) (strOk_bits (ok8_cases hn))) (by decide +kernel)
def cD (c : Option Int) : Dat := match c with | some f => .int f | none => .none
/-- what is told of a location -/
def rowL (va vs fa fm : Int) (c0 c1 : Option Int) : Dat :=
  .list [.str (Str.ofString "location"), .int va, .int vs, cD c0, cD c1, .int (16 * (fm / 8) + fa / 8), .list ((digs (fa / 8).toNat va).map Dat.int), .list ((digs (fm / 8).toNat vs).map Dat.int), .str (locText va fa vs fm)]
def refD : Dat := .list [.str (Str.ofString "refused")]
/-- what is due of two rows of octets -/
def rowDue (ns1 ns2 : List Int) (told : Bool) : Dat :=
  .list [.str (Str.ofString "location"), .int (numOf ns1), .int (numOf ns2), cD (if told then some (8 * ns1.length) else none), cD (if told then some (8 * ns2.length) else none), .int (16 * ns2.length + ns1.length), .list (ns1.map Dat.int), .list (ns2.map Dat.int), .str (locText (numOf ns1) (8 * ns1.length) (numOf ns2) (8 * ns2.length))]
theorem row_due {ns1 ns2 : List Int} {told : Bool} {va vs fa fm : Int} {c0 c1 : Option Int} (o1 : Octs ns1) (o2 : Octs ns2) (hva : va = numOf ns1) (hvs : vs = numOf ns2) (hfa : fa = 8 * ns1.length) (hfm : fm = 8 * ns2.length)
    (hc0 : c0 = if told then some fa else none) (hc1 : c1 = if told then some fm else none) : rowL va vs fa fm c0 c1 = rowDue ns1 ns2 told := by
  subst hva hvs hfa hfm hc0 hc1
  unfold rowL rowDue
  have e1 : (8 * (ns1.length : Int) / 8) = ns1.length := by omega
  have e2 : (8 * (ns2.length : Int) / 8) = ns2.length := by omega
  rw [e1, e2, Int.toNat_natCast, Int.toNat_natCast, digs_num o1, digs_num o2]
theorem intsL_ok (n : Nat) (l : List Int) : kqdOk (n + 1) (.list (l.map Dat.int)) = true := by
  unfold kqdOk
  rw [List.all_map]
  exact List.all_eq_true.mpr fun x _ => by cases n <;> rfl
theorem cD_ok (n : Nat) (c : Option Int) : kqdOk (n + 1) (cD c) = true := by cases c <;> rfl
theorem rowL_ok {va vs fa fm : Int} {c0 c1 : Option Int} (h : PyData.strOk (locText va fa vs fm) = true) : kqdOk 8 (rowL va vs fa fm c0 c1) = true := by
  unfold rowL
  refine List.all_eq_true.mpr (List.forall_mem_cons.mpr ⟨by decide +kernel, List.forall_mem_cons.mpr ⟨rfl, List.forall_mem_cons.mpr ⟨rfl, List.forall_mem_cons.mpr ⟨cD_ok _ _, List.forall_mem_cons.mpr ⟨cD_ok _ _, List.forall_mem_cons.mpr ⟨rfl, List.forall_mem_cons.mpr ⟨intsL_ok 6 _, List.forall_mem_cons.mpr ⟨intsL_ok 6 _, List.forall_mem_cons.mpr ⟨h, List.forall_mem_nil _⟩⟩⟩⟩⟩⟩⟩⟩⟩)
theorem refD_ok : kqdOk 8 refD = true := by decide +kernel
theorem ok8_len {k : Nat} : ok8 (8 * (k : Int)) = true ↔ 1 ≤ k ∧ k ≤ 8 := by rw [show 8 * (k : Int) = (k : Int) * 8 by omega]; exact ok8_sz k
/-- a made value that _law_told is asked about, and what it tells -/
def ToldAs (w : World) (news : List (Addr × Obj)) (r : Value) (d : Dat) : Prop :=
  (∃ l nl, r = .ref l ∧ (l, listOf #[] nl) ∈ news ∧ d = refD) ∨
  (∃ l nl x dx y dy k1 k2 k3 k4 k5 ka kb ta' tm' ta tm t0 t1 va vs fa fm c0 c1, r = .ref l ∧ (l, listOf #[.ref x] nl) ∈ news ∧ (x, instObj 157 dx) ∈ news ∧ (dx, dML w va vs (cellV c0 t0) (cellV c1 t1) y k1 k2 k3 k4 k5 ta tm) ∈ news ∧ (y, instObj 82 dy) ∈ news ∧ (dy, dAl w fm fa ka kb tm' ta') ∈ news ∧
    0 ≤ va ∧ 0 ≤ vs ∧ va < 2 ^ 63 ∧ vs < 2 ^ 63 ∧ ok8 fa = true ∧ ok8 fm = true ∧ (hexOf va).length ≤ 20 ∧ (hexOf vs).length ≤ 20 ∧ d = rowL va vs fa fm c0 c1)
theorem ToldAs.mono {w : World} {a b : List (Addr × Obj)} {r : Value} {d : Dat} (h : ToldAs w a r d) (hs : ∀ p ∈ a, p ∈ b) : ToldAs w b r d := by
  rcases h with ⟨l, nl, e, m, e2⟩ | ⟨l, nl, x, dx, y, dy, k1, k2, k3, k4, k5, ka, kb, ta', tm', ta, tm, t0, t1, va, vs, fa, fm, c0, c1, e, m1, m2, m3, m4, m5, r⟩
  · exact .inl ⟨l, nl, e, hs _ m, e2⟩
  · exact .inr ⟨l, nl, x, dx, y, dy, k1, k2, k3, k4, k5, ka, kb, ta', tm', ta, tm, t0, t1, va, vs, fa, fm, c0, c1, e, hs _ m1, hs _ m2, hs _ m3, hs _ m4, hs _ m5, r⟩
end
/-- the lines that were read for the part above are not those of the next one -/
theorem pause_Z16 : True ∧ True := by first | (walk1; fail) | (w_top off; exact ⟨trivial, trivial⟩)
section
theorem fill_Z15 : (PySem.Challenge.rw_fe0333_02, hd.heap_39) = (PySem.Challenge.rw_fe0333_02, hd.heap_39) := by k_fill; rfl
local macro_rules | `(tactic| walk_at "binaryOp Pow int int") => `(tactic| (k_here; (with_reducible refine pow_int_small ?kb1 ?kb2 ?kb3 ?_); (case kb1 => first | decide | exact fmod_nn _ (by decide)); (case kb2 => first | decide | exact fmod_le6 _ (by decide) (by decide)); (case kb3 => decide)))
local macro_rules | `(tactic| walk_at "getMethod ref") => `(tactic| (k_here; (with_reducible show wpAny _ _ (getMethod (Value.ref 57) (Str.ofString "keys") _) _ _ _); refine keys_get (keyed57 (by k_asm)) (by k_asm) ?_))
local macro_rules | `(tactic| walk_at "getMethod ref") => `(tactic| (k_here; (with_reducible show wpAny _ _ (getMethod (Value.ref 58) (Str.ofString "keys") _) _ _ _); refine keys_get (keyed58 (by k_asm)) (by k_asm) ?_))
local macro_rules | `(tactic| walk_at "call builtin:dict.keys") => `(tactic| (k_here; (with_reducible show wpAny _ _ (call (Value.builtin "dict.keys") [Value.ref _]) _ _ _); (first | (refine keys_call (keyed57 (by k_asm)) (by k_asm) (by k_asm) ?_) | (refine keys_call (keyed58 (by k_asm)) (by k_asm) (by k_asm) ?_)); intro V' h' F' N' l1; (try k_lt l1)))
local macro_rules | `(tactic| walk_at "call type:list") => `(tactic| (k_here; (with_reducible show wpAny _ _ (call (Value.type _) [Value.ref _]) _ _ _); (first | (refine keys_list (keyed57 (by k_asm)) rfl (by k_asm) (by k_asm) (by k_mem) ?_) | (refine keys_list (keyed58 (by k_asm)) rfl (by k_asm) (by k_asm) (by k_mem) ?_)); intro B' c' h' tk' t1 t2 t3 t4 t5 t6 t7 t8 F' N' l1; (try k_lt l1)))
local macro_rules | `(tactic| walk_at "binaryOp Mod str ref") => `(tactic| (k_here; (with_reducible show wpAny _ _ (binaryOp Operator.Mod (Value.str (Str.ofString "address_format must be an integer selected from : %s ") _) (Value.ref _)) _ _ _); refine' text1 ?a1 ?a2 ?a3 ?g ?u ?_; (case a1 => k_asm); (case a2 => k_asm); (case a3 => k_mem); (case g => (first | (simp only [guards_deeper, guards_make]; done) | ((try simp only [guards_deeper, guards_make]); rfl))); (case u => (have hc9 := cLine_is; (try simp only [units_make, units_deeper, units_in1]); (try dsimp only [ktrTop]); omega)); intro t' h' tk' F' N'))
local macro_rules | `(tactic| walk_at "binaryOp Mod str ref") => `(tactic| (k_here; (with_reducible show wpAny _ _ (binaryOp Operator.Mod (Value.str (Str.ofString "memorysize_format must be an integer selected from : %s") _) (Value.ref _)) _ _ _); refine' text2 ?a1 ?a2 ?a3 ?g ?u ?_; (case a1 => k_asm); (case a2 => k_asm); (case a3 => k_mem); (case g => (first | (simp only [guards_deeper, guards_make]; done) | ((try simp only [guards_deeper, guards_make]); rfl))); (case u => (have hc9 := cLine_is; (try simp only [units_make, units_deeper, units_in1]); (try dsimp only [ktrTop]); omega)); intro t' h' tk' F' N'))
local macro_rules | `(tactic| walk_at "my enter") => `(tactic| k_dflt (refine' code_def ?k1 ?k2 ?k3 ?k4 ?k5 ?kA ?kF ?kK ?k6 ?k7 ?k8 ?k9 ?kB ?_ ?c2 ?c3 ?c4 ?c5; (case kA => exact rfl); (case kF => exact rfl); (case kK => first | assumption | exact rfl); (case k1 => k_asm); (case k2 => k_asm); (case k3 => k_asm); (case k4 => k_asm); (case k5 => k_asm); (case k6 => k_is); (case k7 => k_is); (case k8 => ((try simp only [depth_make, depth_deeper, depth_in1]); (try dsimp only [ktrTop]); omega)); (case k9 => first | exact BindsTo.of_eq rfl | exact binds_K (by k_in) rfl (by k_is) rfl rfl rfl); (case c5 => decide); (case kB => exact locs rfl); (case c2 => exact rfl); (case c3 => exact rfl); (case c4 => exact rfl); k_whole; intro g' L' h' FG' F' N' B' X' T'; (try dsimp only); (try k_fold)))
local macro_rules | `(tactic| walk_at "my make") => `(tactic| (k_dflt (refine' call_cls ?k1 ?k2 ?k3 ?k4 ?k5 ?k6 ?_; (case k1 => k_asm); (case k2 => k_asm); (case k3 => k_asm); (case k4 => k_is); (case k5 => k_is); (case k6 => k_is); k_whole; intro x' d' h' F' N' l1 l2; (try k_lt l1); (try k_lt2 l2); (try k_sweep)); walk_at "my enter"))
local macro_rules | `(tactic| walk_at "my room") => `(tactic| first | ((try simp only [depth_make, depth_deeper, depth_in1, units_make, units_deeper, units_in1]); (try dsimp only [ktrTop]); omega) | decide | (with_unfolding_all decide))
local macro_rules | `(tactic| walk_at "leaving ref") => `(tactic| (k_here; first | (refine' leave_raiseS ?k1 ?k0 ?k2 ?k3 ?_; (case k0 => first | assumption | exact Heap.MadeExc.of (by assumption)); (case k2 => assumption); (case k1 => assumption); (case k3 => k_asm); k_whole; intro h' t' S' R' U'; (try dsimp only at S' R' U' ⊢)) | (refine' leave_onS ?k1 ?k2 ?k3 ?k4 ?_; (case k3 => assumption); (case k2 => assumption); (case k1 => assumption); (case k4 => assumption); k_whole; intro h' S' R' U'; (try dsimp only at S' R' U' ⊢))))
local macro_rules | `(tactic| walk_at "my sub") => `(tactic| ((repeat' (refine List.forall_mem_cons.mpr ⟨by k_mem, ?_⟩)); (intro p hp; repeat (first | exact hp | apply List.Mem.tail))))
local macro_rules | `(tactic| walk_at "my no") => `(tactic| first | assumption | exact and_no1 (by assumption) | exact and_no2 (by assumption) | exact and_no1 (no8 (by assumption)) | exact and_no2 (no8 (by assumption)))
local macro_rules | `(tactic| walk_at "my raise") => `(tactic| ((try dsimp only [InitBack]); refine' Rai.use2 ?H ?C ?U ?F ?R ?S; (case H => assumption); (case C => walk_at "my no"); (case U => assumption); (case F => assumption); (case R => assumption); (case S => walk_at "my sub")))
local macro_rules | `(tactic| walk_at "subscriptTail Attribute Name Attribute ref int") => `(tactic| (k_here; k_dflt (refine kba_turn (value' := PySem.Expr.Name (PySem.Str.ofString "_") ⟨0, 0, 0, 0⟩) (fun _ => rfl) ?_)))
local macro_rules | `(tactic| walk_at "subscriptTail Name Attribute ref int") => `(tactic| (k_here; (with_reducible show wpAny _ _ (subscriptTail _ _ (Value.ref _) (Value.int _ _)) _ _ _); k_dflt (refine' map_item ?k1 ?k2 ?k3 ?_; (case k1 => first | exact keyed57 (by k_asm) | exact keyed58 (by k_asm)); (case k2 => k_asm); (case k3 => k_asm); intro t')))
local macro_rules | `(tactic| walk_at "call builtin:_struct.pack") => `(tactic| (k_here; (with_reducible show wpAny _ _ (call (Value.builtin _) [Value.str _ _, Value.int _ _]) _ _ _); refine call_pack (by assumption) (by assumption) ?_; intro t'))
local macro_rules | `(tactic| walk_at "subscriptTail Name Slice bytes ref") => `(tactic| (k_here; (with_reducible show wpAny _ _ (subscriptTail _ (Expr.Slice _ _ none _) (Value.bytes (packB _) _) (Value.ref _)) _ _ _); (with_reducible rename Fr _ _ _ _ => F'); (with_reducible rename News _ _ _ _ => N'); (refine KBc.slice_K (s := ⟨_, _, _, _, _⟩) F' N' rfl (by constructor) (by constructor) (by rw [KBw.ints_length, packB_size]; decide) ?_); intro h' t' tk' F' N' kbcK))
inductive Ins (add : List (Addr × Obj)) : List (Addr × Obj) → List (Addr × Obj) → Prop
  | last {tl : List (Addr × Obj)} : Ins add tl (add ++ tl)
  | cons {p : Addr × Obj} {l l' : List (Addr × Obj)} : Ins add l l' → Ins add (p :: l) (p :: l')
theorem lt63 {v : Int} (h : v < 2 ^ Int.toNat 63) : v < 2 ^ 63 := h
theorem nlt63 {v : Int} (h : ¬ v < 2 ^ Int.toNat 63) : ¬ v < 2 ^ 63 := h
theorem Ins.sub {add l l' : List (Addr × Obj)} (h : Ins add l l') : ∀ p ∈ l', p ∈ add ++ l := by
  induction h with
  | last => exact fun p hp => hp
  | cons _ ih =>
    intro p hp
    rcases List.mem_cons.mp hp with e | hp
    · exact List.mem_append.mpr (.inr (e ▸ .head _))
    · rcases List.mem_append.mp (ih p hp) with h | h
      · exact List.mem_append.mpr (.inl h)
      · exact List.mem_append.mpr (.inr (.tail _ h))
theorem ins_news {h₀ h : Heap} {L : Addr} {add l l' : List (Addr × Obj)} (N : News h₀ L h (add ++ l)) (i : Ins add l l') : News h₀ L h l' := fun p hp => N p (i.sub p hp)
local macro_rules | `(tactic| walk_at "my ins") => `(tactic| ((repeat apply Ins.cons); apply Ins.last))
/-- a call that only makes new data -/
abbrev Makes (lv : Nat) (w : World) (mean : ExcName → Option Value) (mg mb : Str → Option Value) (f : Addr) (vs : List Value) (news : List (Addr × Obj)) (D : Dat) : Prop :=
  Does lv w mean mg mb f vs [] news (fun r news' => ∃ add, news' = add ++ news ∧ Apart add news ∧ DatIn add r D) (fun nx => nx = news ∧ False)
theorem Makes.heads {lv : Nat} {w : World} {mean : ExcName → Option Value} {mg mb : Str → Option Value} {f : Addr} {vs : List Value} {pre news : List (Addr × Obj)} {D : Dat} (hp : ∀ p ∈ pre, p ∈ news) (M : Makes lv w mean mg mb f vs (pre ++ news) D) : Makes lv w mean mg mb f vs news D := by
  intro dp un cn cs a ccd cl outer A₀ base h₀ L m s Q E B F K N T hk hdp hun hret hraise
  have hs : ∀ p ∈ pre ++ news, p ∈ news := fun p h => (List.mem_append.mp h).elim (hp p) id
  refine M dp un cn cs a ccd cl outer A₀ base h₀ L m s Q E B F K (fun p h => N p (hs p h)) T hk hdp hun ?_ (fun nx hx => hx.2.elim)
  rintro v news' h' tk' F' N' ⟨add, rfl, ha, hD⟩
  exact hret.use F' (fun p h => N' p ((List.mem_append.mp h).elim (fun h => List.mem_append.mpr (.inl h)) fun h => List.mem_append.mpr (.inr (List.mem_append.mpr (.inr h))))) ⟨add, rfl, fun p h q hq => ha p (List.mem_append.mpr (.inr h)) q hq, hD⟩
theorem apart_lt {add news : List (Addr × Obj)} (h : ∀ p ∈ news, ∀ q ∈ add, @LT.lt Nat _ p.1 q.1) : Apart add news := fun p hp q hq => Nat.ne_of_lt (h p hp q hq)
theorem digs_length : ∀ (k : Nat) (n : Int), (digs k n).length = k
  | 0, _ => rfl
  | k + 1, n => by rw [digs, List.length_append, digs_length k, List.length_singleton]
theorem bytes8 {b : Array UInt8} {k v : Int} (h : KBw.bInts b = digs k.toNat v) (hk : k ≤ 8) : (KBw.bInts b).length ≤ 8 := by
  rw [h, digs_length]; omega
theorem close_due {h₀ h : Heap} {L l' : Addr} {m : Str → Option Value} {s : Shared} {tk : Nat} {Q : Value → Shared → Prop} {pre tl X : List (Addr × Obj)} {o : Obj} {D : Dat}
    (hret : Bck h₀ L m s Q (fun r news' => ∃ add, news' = add ++ (pre ++ tl) ∧ Apart add (pre ++ tl) ∧ DatIn add r D)) (F : Fr h₀ L h m) (N : News h₀ L h ((l', o) :: (pre ++ (X ++ tl)))) (l1 : AllLt l' (pre ++ tl)) (hX : Apart X (pre ++ tl)) (hD : DatIn ((l', o) :: X) (.ref l') D) :
    Q (.ref l') { s with heap := h, toks := tk } := by
  refine hret.use F (news' := ((l', o) :: X) ++ (pre ++ tl)) (fun p hp => N p ?_) ⟨(l', o) :: X, rfl, fun p hp q hq => ?_, hD⟩
  · rcases List.mem_append.mp hp with hp | hp
    · rcases List.mem_cons.mp hp with e | hp
      · rw [e]; exact .head _
      · exact .tail _ (List.mem_append.mpr (.inr (List.mem_append.mpr (.inl hp))))
    · rcases List.mem_append.mp hp with hp | hp
      · exact .tail _ (List.mem_append.mpr (.inl hp))
      · exact .tail _ (List.mem_append.mpr (.inr (List.mem_append.mpr (.inr hp))))
  · rcases List.mem_cons.mp hq with e | hq
    · rw [e]; exact Nat.ne_of_lt (allLt_mem l1 p hp)
    · exact hX p hp q hq
theorem apart_nil {l : List (Addr × Obj)} : Apart [] l := fun _ _ _ h => (nomatch h)
theorem apart_tl {A l : List (Addr × Obj)} {p : Addr × Obj} (h : Apart A (p :: l)) : Apart A l := fun q hq => h q (.tail _ hq)
theorem apart_two {A Bx pre tl : List (Addr × Obj)} {p p' : Addr × Obj} (ha : Apart A (p :: (pre ++ tl))) (hb : Apart Bx (p' :: (pre ++ (A ++ tl)))) : Apart (Bx ++ A) (pre ++ tl) := fun q hq r hr => by
  rcases List.mem_append.mp hr with hr | hr
  · refine hb q (.tail _ ?_) r hr
    rcases List.mem_append.mp hq with hq | hq
    · exact List.mem_append.mpr (.inl hq)
    · exact List.mem_append.mpr (.inr (List.mem_append.mpr (.inr hq)))
  · exact ha q (.tail _ hq) r hr
theorem app3 {α : Type} {p : α} {a b c d : List α} : p :: (a ++ (b ++ (c ++ d))) = p :: (a ++ ((b ++ c) ++ d)) := by rw [List.append_assoc]
theorem news_as {h₀ h : Heap} {L : Addr} {l l' : List (Addr × Obj)} (N : News h₀ L h l) (e : l = l') : News h₀ L h l' := e ▸ N
theorem dat_tl {news : List (Addr × Obj)} {p : Addr × Obj} {v : Value} {d : Dat} (h : DatIn news v d) : DatIn (p :: news) v d := h.mono fun _ hq => .tail _ hq
theorem dat_lf {a b : List (Addr × Obj)} {v : Value} {d : Dat} (h : DatIn a v d) : DatIn (a ++ b) v d := h.mono fun _ hq => List.mem_append.mpr (.inl hq)
theorem dat_rt {a b : List (Addr × Obj)} {v : Value} {d : Dat} (h : DatIn b v d) : DatIn (a ++ b) v d := h.mono fun _ hq => List.mem_append.mpr (.inr hq)
theorem all_app {d : Nat} {A tl : List (Addr × Obj)} (h1 : ∀ p ∈ A, @Ne Nat p.1 d) (h2 : ∀ p ∈ tl, @Ne Nat p.1 d) : ∀ p ∈ A ++ tl, @Ne Nat p.1 d := fun p hp => (List.mem_append.mp hp).elim (h1 p) (h2 p)
theorem all_apart {d : Addr} {o : Obj} {A l : List (Addr × Obj)} (h : Apart A l) (hm : (d, o) ∈ l) : ∀ p ∈ A, @Ne Nat p.1 d := fun q hq => Ne.symm (h (d, o) hm q hq)
local macro_rules | `(tactic| k_all) => `(tactic| (refine all_app ?ka9 ?kb9; (case ka9 => exact all_apart (by assumption) (by k_mem)); (case kb9 => k_all)))
local macro_rules | `(tactic| walk_at "call ref") => `(tactic| (k_here; (with_reducible show wpAny _ _ (call (Value.ref 72) _ _) _ _ _); k_dflt (refine' c_byte _ _ _ _ _ _ _ _ _ _ _ _ _ ?m1 ?m2 ?ha ?hm _ _ _ _ _ _ _ _ _ _ _ _ _ _ _ _ ?k1 ?k2 ?k3 ?k4 ?k5 ?kK ?kd ?ku  ?_ ?_; (case k1 => k_asm); (case k2 => k_asm); (case k3 => k_asm); (case k4 => k_asm); (case k5 => k_asm); (case m1 => k_mem); (case m2 => k_mem); (case ha => assumption); (case hm => assumption); (case kK => first | exact rfl | assumption); (case kd => walk_at "my room"); (case ku => walk_at "my room"); (focus (unfold Bck; intro v9 n9 h' tk' F' N' r9; obtain ⟨e9, t9, e8⟩ := r9; subst e9; subst e8; (try dsimp only); (try k_fold))); rotate_left; (focus (unfold Rai; intro n9 r9; (exact r9.2.elim))))))
local macro_rules | `(tactic| walk_at "call ref") => `(tactic| (k_here; (with_reducible show wpAny _ _ (call (Value.ref 130) _ _) _ _ _); k_dflt (refine' c_abytes _ _ _ _ _ _ _ _ _ _ _ _ _ _ _ _ _ _ _ _ _ _ _ _ _ _ ?m1 ?m2 ?m3 ?m4 ?ha ?h0 ?h6 _ _ _ _ _ _ _ _ _ _ _ _ _ _ _ _ ?k1 ?k2 ?k3 ?k4 ?k5 ?kK ?kd ?ku  ?_ ?_; (case k1 => k_asm); (case k2 => k_asm); (case k3 => k_asm); (case k4 => k_asm); (case k5 => k_asm); (case m1 => k_mem); (case m2 => k_mem); (case m3 => k_mem); (case m4 => k_mem); (case ha => assumption); (case h0 => assumption); (case h6 => assumption); (case kK => first | exact rfl | assumption); (case kd => walk_at "my room"); (case ku => walk_at "my room"); (focus (unfold Bck; intro v9 n9 h' tk' F' N' r9; obtain ⟨e9, b9, t9, e8, hI9⟩ := r9; subst e9; subst e8; have hl9 := bytes8 hI9 (by assumption); (try dsimp only); (try k_fold))); rotate_left; (focus (unfold Rai; intro n9 r9; (exact r9.2.elim))))))
local macro_rules | `(tactic| walk_at "call ref") => `(tactic| (k_here; (with_reducible show wpAny _ _ (call (Value.ref 137) _ _) _ _ _); k_dflt (refine' c_mbytes _ _ _ _ _ _ _ _ _ _ _ _ _ _ _ _ _ _ _ _ _ _ _ _ _ _ ?m1 ?m2 ?m3 ?m4 ?ha ?h0 ?h6 _ _ _ _ _ _ _ _ _ _ _ _ _ _ _ _ ?k1 ?k2 ?k3 ?k4 ?k5 ?kK ?kd ?ku  ?_ ?_; (case k1 => k_asm); (case k2 => k_asm); (case k3 => k_asm); (case k4 => k_asm); (case k5 => k_asm); (case m1 => k_mem); (case m2 => k_mem); (case m3 => k_mem); (case m4 => k_mem); (case ha => assumption); (case h0 => assumption); (case h6 => assumption); (case kK => first | exact rfl | assumption); (case kd => walk_at "my room"); (case ku => walk_at "my room"); (focus (unfold Bck; intro v9 n9 h' tk' F' N' r9; obtain ⟨e9, b9, t9, e8, hI9⟩ := r9; subst e9; subst e8; have hl9 := bytes8 hI9 (by assumption); (try dsimp only); (try k_fold))); rotate_left; (focus (unfold Rai; intro n9 r9; (exact r9.2.elim))))))
local macro_rules | `(tactic| walk_at "call ref") => `(tactic| (k_here; (with_reducible show wpAny _ _ (call (Value.ref 187) [Value.bytes _ _] _) _ _ _); k_dflt (refine' c_row _ _ _ _ _ _ _ ?h8 _ _ _ _ _ _ _ _ _ _ _ _ _ _ _ _ ?k1 ?k2 ?k3 ?k4 ?k5 ?kK ?kd ?ku  ?_ ?_; (case k1 => k_asm); (case k2 => k_asm); (case k3 => k_asm); (case k4 => k_asm); (case k5 => k_asm); (case h8 => assumption); (case kK => first | exact rfl | assumption); (case kd => walk_at "my room"); (case ku => walk_at "my room"); (focus (unfold Bck; intro v9 n9 h' tk' F' N' r9; obtain ⟨add9, e9, ha9, hD9⟩ := r9; subst e9; (have N2 := ins_news N' (by walk_at "my ins")); clear N'; (try dsimp only); (try k_fold))); rotate_left; (focus (unfold Rai; intro n9 r9; (exact r9.2.elim))))))
local macro_rules | `(tactic| walk_at "call ref") => `(tactic| (k_here; (with_reducible show wpAny _ _ (call (Value.ref 154) [Value.ref _] _) _ _ _); k_dflt (refine' c_str _ _ _ _ _ _ _ _ _ _ _ _ _ _ _ _ _ _ _ _ _ _ _ _ _ _ ?hva ?hvs ?hfa ?hfa9 ?hfm ?hfm9 ?hla ?hls ?m1 ?m2 ?m3 ?m4 _ _ _ _ _ _ _ _ _ _ _ _ _ _ _ _ ?k1 ?k2 ?k3 ?k4 ?k5 ?kK ?kd ?ku  ?_ ?_; (case k1 => k_asm); (case k2 => k_asm); (case k3 => k_asm); (case k4 => k_asm); (case k5 => k_asm); (case m1 => k_mem); (case m2 => k_mem); (case m3 => k_mem); (case m4 => k_mem); (case hva => assumption); (case hvs => assumption); (case hfa => assumption); (case hfa9 => assumption); (case hfm => assumption); (case hfm9 => assumption); (case hla => assumption); (case hls => assumption); (case kK => first | exact rfl | assumption); (case kd => walk_at "my room"); (case ku => walk_at "my room"); (focus (unfold Bck; intro v9 n9 h' tk' F' N' r9; obtain ⟨e9, t9, e8⟩ := r9; subst e9; subst e8; (try dsimp only [StrBack]); (try dsimp only); (try k_fold))); rotate_left; (focus (unfold Rai; intro n9 r9; (exact r9.2.elim))))))
theorem handed_cell {c : Option Int} {t : Tok} : handedIn (cellV c t) = true := by cases c <;> rfl
local macro_rules | `(tactic| k_handed) => `(tactic| exact handed_cell)
local macro_rules | `(tactic| walk_at "call type:str") => `(tactic| (k_here; (with_reducible show wpAny _ _ (call (Value.type "str") [Value.ref _]) _ _ _); k_dflt (refine' kso_call ?k1 ?k2 ?k3 ?k4 ?k5 ?_; (case k2 => k_in); (case k3 => k_inst); (case k4 => k_is); (case k5 => k_is); (case k1 => walk_at "my room"))))
theorem apart_two5 {A Bx pre tl : List (Addr × Obj)} (ha : Apart A (pre ++ tl)) (hb : Apart Bx (pre ++ (A ++ tl))) : Apart (Bx ++ A) (pre ++ tl) := fun q hq r hr => by
  rcases List.mem_append.mp hr with hr | hr
  · refine hb q ?_ r hr
    rcases List.mem_append.mp hq with hq | hq
    · exact List.mem_append.mpr (.inl hq)
    · exact List.mem_append.mpr (.inr (List.mem_append.mpr (.inr hq)))
  · exact ha q hq r hr
theorem allLt_of {d : Addr} {l : List (Addr × Obj)} (h : ∀ p ∈ l, @LT.lt Nat _ p.1 d) : AllLt d l := by
  induction l with
  | nil => trivial
  | cons q l ih => exact ⟨h q (.head _), ih fun p hp => h p (.tail _ hp)⟩
theorem allLt_two {d : Addr} {pre A B tl : List (Addr × Obj)} (h : AllLt d (pre ++ (A ++ (B ++ tl)))) : AllLt d (pre ++ tl) := allLt_of fun p hp => by
  refine allLt_mem h p ?_
  rcases List.mem_append.mp hp with hp | hp
  · exact List.mem_append.mpr (.inl hp)
  · exact List.mem_append.mpr (.inr (List.mem_append.mpr (.inr (List.mem_append.mpr (.inr hp)))))
theorem app5 {α : Type} {p q1 q2 q3 q4 q5 : α} {a b d : List α} : p :: q1 :: q2 :: q3 :: q4 :: q5 :: (a ++ (b ++ d)) = p :: ([q1, q2, q3, q4, q5] ++ ((a ++ b) ++ d)) := by rw [List.append_assoc]; rfl
theorem cD_in {news : List (Addr × Obj)} {c : Option Int} {t : Tok} : DatIn news (cellV c t) (cD c) := by
  cases c with
  | none => exact .none
  | some f => exact .int f t
theorem datI {news : List (Addr × Obj)} {v : Value} {ns ms : List Int} (h : DatIn news v (.list (ns.map Dat.int))) (e : ns = ms) : DatIn news v (.list (ms.map Dat.int)) := e ▸ h
set_option maxHeartbeats 8000000 in
theorem c_told20 (w : World) (mean : ExcName → Option Value) (mg mb : Str → Option Value) (tl : List (Addr × Obj)) (l x dx y dy : Addr) (nl : Nat) (c0 c1 : Option Int) (fa fm va vs : Int) (t0 t1 k1 k2 k3 k4 k5 tv1 tv2 ka kb tm' ta' : Tok)
    (hva : 0 ≤ va) (hvs : 0 ≤ vs) (hv6 : va < 2 ^ 63) (hs6 : vs < 2 ^ 63) (ha : ok8 fa = true) (hm : ok8 fm = true) (hla : (hexOf va).length ≤ 20) (hls : (hexOf vs).length ≤ 20) :
    Makes 30 w mean mg mb 194 [.ref l] ([(l, listOf #[.ref x] nl), (x, instObj 157 dx), (dx, dML w va vs (cellV c0 t0) (cellV c1 t1) y k1 k2 k3 k4 k5 tv1 tv2), (y, instObj 82 dy), (dy, dAl w fm fa ka kb tm' ta')] ++ tl) (rowL va vs fa fm c0 c1) := by
  have b1 := ok8_bnd ha
  have b2 := ok8_bnd hm
  have b3 : fa / 8 ≤ 8 := by omega
  have b4 : fm / 8 ≤ 8 := by omega
  have q1 : 0 ≤ fa := by omega
  have q2 : fa < 10 ^ 10 := by omega
  have q3 : 0 ≤ fm := by omega
  have q4 : fm < 10 ^ 10 := by omega
  intro dp un cn cs a ccd cl outer A₀ base h₀ L m s Q E B F K N T hk hdp hun hret hraise
  unfold rowL at hret
  simp only [List.cons_append, List.nil_append] at N
  refine wpAny_call ?_
  walk_at "my enter"
  k_steps
  refine close_due (pre := [_, _, _, _, _]) (X := _ ++ _) hret (by assumption) (news_as (by assumption) app5) (allLt_two (pre := [_, _, _, _, _]) (by assumption)) (apart_two5 (pre := [_, _, _, _, _]) (by assumption) (by assumption)) (.list (vs := [_, _, _, _, _, _, _, _, _]) (.head _) ?_)
  exact .cons (.str _ _) (.cons (.int _ _) (.cons (.int _ _) (.cons cD_in (.cons cD_in (.cons (.int _ _) (.cons (dat_tl (dat_rt (datI (by assumption) (by assumption)))) (.cons (dat_tl (dat_lf (datI (by assumption) (by assumption)))) (.cons (.str _ _) .nil))))))))
set_option maxHeartbeats 8000000 in
theorem c_told21 (w : World) (mean : ExcName → Option Value) (mg mb : Str → Option Value) (tl : List (Addr × Obj)) (l : Addr) (nl : Nat) :
    Makes 30 w mean mg mb 194 [.ref l] ([(l, listOf #[] nl)] ++ tl) refD := by
  intro dp un cn cs a ccd cl outer A₀ base h₀ L m s Q E B F K N T hk hdp hun hret hraise
  unfold refD at hret
  simp only [List.cons_append, List.nil_append] at N
  refine wpAny_call ?_
  walk_at "my enter"
  k_steps
  refine close_due (pre := [_]) (X := []) hret (by assumption) (by assumption) (by assumption) apart_nil (.list (vs := [_]) (.head _) ?_)
  exact .cons (.str _ _) .nil
theorem c_told2 (w : World) (mean : ExcName → Option Value) (mg mb : Str → Option Value) (news : List (Addr × Obj)) (r : Value) (d : Dat) (h : ToldAs w news r d) : Makes 30 w mean mg mb 194 [r] news d := by
  rcases h with ⟨l, nl, e, m, e2⟩ | ⟨l, nl, x, dx, y, dy, k1, k2, k3, k4, k5, ka, kb, ta', tm', ta, tm, t0, t1, va, vs, fa, fm, c0, c1, e, m1, m2, m3, m4, m5, h1, h2, h3, h4, h5, h6, h7, h8, e2⟩
  · subst e e2
    exact Makes.heads (pre := [_]) (List.forall_mem_cons.mpr ⟨m, List.forall_mem_nil _⟩) (c_told21 w mean mg mb news l nl)
  · subst e e2
    exact Makes.heads (pre := [_, _, _, _, _]) (List.forall_mem_cons.mpr ⟨m1, List.forall_mem_cons.mpr ⟨m2, List.forall_mem_cons.mpr ⟨m3, List.forall_mem_cons.mpr ⟨m4, List.forall_mem_cons.mpr ⟨m5, List.forall_mem_nil _⟩⟩⟩⟩⟩) (c_told20 w mean mg mb news l x dx y dy nl c0 c1 fa fm va vs t0 t1 k1 k2 k3 k4 k5 ta tm ka kb tm' ta' h1 h2 h3 h4 h5 h6 h7 h8)
end
/-- the lines that were read for the part above are not those of the next one -/
theorem pause_Z15 : True ∧ True := by first | (walk1; fail) | (w_top off; exact ⟨trivial, trivial⟩)
section
theorem fill_Z17 : (PySem.Challenge.rw_fe0333_02, hd.heap_39) = (PySem.Challenge.rw_fe0333_02, hd.heap_39) := by k_fill; rfl
local macro_rules | `(tactic| walk_at "binaryOp Pow int int") => `(tactic| (k_here; (with_reducible refine pow_int_small ?kb1 ?kb2 ?kb3 ?_); (case kb1 => first | decide | exact fmod_nn _ (by decide)); (case kb2 => first | decide | exact fmod_le6 _ (by decide) (by decide)); (case kb3 => decide)))
local macro_rules | `(tactic| walk_at "getMethod ref") => `(tactic| (k_here; (with_reducible show wpAny _ _ (getMethod (Value.ref 57) (Str.ofString "keys") _) _ _ _); refine keys_get (keyed57 (by k_asm)) (by k_asm) ?_))
local macro_rules | `(tactic| walk_at "getMethod ref") => `(tactic| (k_here; (with_reducible show wpAny _ _ (getMethod (Value.ref 58) (Str.ofString "keys") _) _ _ _); refine keys_get (keyed58 (by k_asm)) (by k_asm) ?_))
local macro_rules | `(tactic| walk_at "call builtin:dict.keys") => `(tactic| (k_here; (with_reducible show wpAny _ _ (call (Value.builtin "dict.keys") [Value.ref _]) _ _ _); (first | (refine keys_call (keyed57 (by k_asm)) (by k_asm) (by k_asm) ?_) | (refine keys_call (keyed58 (by k_asm)) (by k_asm) (by k_asm) ?_)); intro V' h' F' N' l1; (try k_lt l1)))
local macro_rules | `(tactic| walk_at "call type:list") => `(tactic| (k_here; (with_reducible show wpAny _ _ (call (Value.type _) [Value.ref _]) _ _ _); (first | (refine keys_list (keyed57 (by k_asm)) rfl (by k_asm) (by k_asm) (by k_mem) ?_) | (refine keys_list (keyed58 (by k_asm)) rfl (by k_asm) (by k_asm) (by k_mem) ?_)); intro B' c' h' tk' t1 t2 t3 t4 t5 t6 t7 t8 F' N' l1; (try k_lt l1)))
local macro_rules | `(tactic| walk_at "binaryOp Mod str ref") => `(tactic| (k_here; (with_reducible show wpAny _ _ (binaryOp Operator.Mod (Value.str (Str.ofString "address_format must be an integer selected from : %s ") _) (Value.ref _)) _ _ _); refine' text1 ?a1 ?a2 ?a3 ?g ?u ?_; (case a1 => k_asm); (case a2 => k_asm); (case a3 => k_mem); (case g => (first | (simp only [guards_deeper, guards_make]; done) | ((try simp only [guards_deeper, guards_make]); rfl))); (case u => (have hc9 := cLine_is; (try simp only [units_make, units_deeper, units_in1]); (try dsimp only [ktrTop]); omega)); intro t' h' tk' F' N'))
local macro_rules | `(tactic| walk_at "binaryOp Mod str ref") => `(tactic| (k_here; (with_reducible show wpAny _ _ (binaryOp Operator.Mod (Value.str (Str.ofString "memorysize_format must be an integer selected from : %s") _) (Value.ref _)) _ _ _); refine' text2 ?a1 ?a2 ?a3 ?g ?u ?_; (case a1 => k_asm); (case a2 => k_asm); (case a3 => k_mem); (case g => (first | (simp only [guards_deeper, guards_make]; done) | ((try simp only [guards_deeper, guards_make]); rfl))); (case u => (have hc9 := cLine_is; (try simp only [units_make, units_deeper, units_in1]); (try dsimp only [ktrTop]); omega)); intro t' h' tk' F' N'))
local macro_rules | `(tactic| walk_at "my enter") => `(tactic| k_dflt (refine' code_def ?k1 ?k2 ?k3 ?k4 ?k5 ?kA ?kF ?kK ?k6 ?k7 ?k8 ?k9 ?kB ?_ ?c2 ?c3 ?c4 ?c5; (case kA => exact rfl); (case kF => exact rfl); (case kK => first | assumption | exact rfl); (case k1 => k_asm); (case k2 => k_asm); (case k3 => k_asm); (case k4 => k_asm); (case k5 => k_asm); (case k6 => k_is); (case k7 => k_is); (case k8 => ((try simp only [depth_make, depth_deeper, depth_in1]); (try dsimp only [ktrTop]); omega)); (case k9 => first | exact BindsTo.of_eq rfl | exact binds_K (by k_in) rfl (by k_is) rfl rfl rfl); (case c5 => decide); (case kB => exact locs rfl); (case c2 => exact rfl); (case c3 => exact rfl); (case c4 => exact rfl); k_whole; intro g' L' h' FG' F' N' B' X' T'; (try dsimp only); (try k_fold)))
local macro_rules | `(tactic| walk_at "my make") => `(tactic| (k_dflt (refine' call_cls ?k1 ?k2 ?k3 ?k4 ?k5 ?k6 ?_; (case k1 => k_asm); (case k2 => k_asm); (case k3 => k_asm); (case k4 => k_is); (case k5 => k_is); (case k6 => k_is); k_whole; intro x' d' h' F' N' l1 l2; (try k_lt l1); (try k_lt2 l2); (try k_sweep)); walk_at "my enter"))
local macro_rules | `(tactic| walk_at "my room") => `(tactic| first | ((try simp only [depth_make, depth_deeper, depth_in1, units_make, units_deeper, units_in1]); (try dsimp only [ktrTop]); omega) | decide | (with_unfolding_all decide))
local macro_rules | `(tactic| walk_at "leaving ref") => `(tactic| (k_here; first | (refine' leave_raiseS ?k1 ?k0 ?k2 ?k3 ?_; (case k0 => first | assumption | exact Heap.MadeExc.of (by assumption)); (case k2 => assumption); (case k1 => assumption); (case k3 => k_asm); k_whole; intro h' t' S' R' U'; (try dsimp only at S' R' U' ⊢)) | (refine' leave_onS ?k1 ?k2 ?k3 ?k4 ?_; (case k3 => assumption); (case k2 => assumption); (case k1 => assumption); (case k4 => assumption); k_whole; intro h' S' R' U'; (try dsimp only at S' R' U' ⊢))))
local macro_rules | `(tactic| walk_at "my sub") => `(tactic| ((repeat' (refine List.forall_mem_cons.mpr ⟨by k_mem, ?_⟩)); (intro p hp; repeat (first | exact hp | apply List.Mem.tail))))
local macro_rules | `(tactic| walk_at "my no") => `(tactic| first | assumption | exact and_no1 (by assumption) | exact and_no2 (by assumption) | exact and_no1 (no8 (by assumption)) | exact and_no2 (no8 (by assumption)))
local macro_rules | `(tactic| walk_at "my raise") => `(tactic| ((try dsimp only [InitBack]); refine' Rai.use2 ?H ?C ?U ?F ?R ?S; (case H => assumption); (case C => walk_at "my no"); (case U => assumption); (case F => assumption); (case R => assumption); (case S => walk_at "my sub")))
local macro_rules | `(tactic| walk_at "call ref") => `(tactic| (k_here; (with_reducible show wpAny _ _ (call (Value.ref 168) [Value.ref _] _) _ _ _); k_dflt (refine' c_number _ _ _ _ _ _ _ _ _ ?m1 ?hI _ _ _ _ _ _ _ _ _ _ _ _ _ _ _ _ ?k1 ?k2 ?k3 ?k4 ?k5 ?kK ?kd ?ku  ?_ ?_; (case k1 => k_asm); (case k2 => k_asm); (case k3 => k_asm); (case k4 => k_asm); (case k5 => k_asm); (case m1 => k_mem); (case hI => with_reducible assumption); (case kK => first | exact rfl | assumption); (case kd => walk_at "my room"); (case ku => walk_at "my room"); (focus (unfold Bck; intro v9 n9 h' tk' F' N' r9; obtain ⟨e9, t9, e8⟩ := r9; subst e9; subst e8; (try dsimp only); (try k_fold))); rotate_left; (focus (unfold Rai; intro n9 r9; (exact r9.2.elim))))))
local macro_rules | `(tactic| walk_at "call ref") => `(tactic| (k_here; (with_reducible show wpAny _ _ (call (Value.ref 182) [Value.int _ _] _) _ _ _); k_dflt (refine' c_hex _ _ _ _ _ _ _ ?h0 ?h2 _ _ _ _ _ _ _ _ _ _ _ _ _ _ _ _ ?k1 ?k2 ?k3 ?k4 ?k5 ?kK ?kd ?ku  ?_ ?_; (case k1 => k_asm); (case k2 => k_asm); (case k3 => k_asm); (case k4 => k_asm); (case k5 => k_asm); (case h0 => with_reducible assumption); (case h2 => with_reducible assumption); (case kK => first | exact rfl | assumption); (case kd => walk_at "my room"); (case ku => walk_at "my room"); (focus (unfold Bck; intro v9 n9 h' tk' F' N' r9; obtain ⟨e9, t9, e8⟩ := r9; subst e9; subst e8; (try dsimp only); (try k_fold))); rotate_left; (focus (unfold Rai; intro n9 r9; (exact r9.2.elim))))))
local macro_rules | `(tactic| walk_at "call builtin:len") => `(tactic| (k_here; (with_reducible show wpAny _ _ (call (Value.builtin "len") [Value.ref _]) _ _ _); k_dflt (refine' len_mem ?k1 ?k2 ?k3 ?k4 ?_; (case k1 => k_asm); (case k2 => k_mem); (case k3 => with_reducible assumption); (case k4 => with_reducible assumption))))
/-- one new list, told by what stands in the ledger -/
def DueR (news two : List (Addr × Obj)) (d : Dat) (r : Value) (news' : List (Addr × Obj)) : Prop := ∃ D o, r = .ref D ∧ news' = (D, o) :: news ∧ (∀ p ∈ news, @LT.lt Nat _ p.1 D) ∧ DatIn ((D, o) :: two) r d
theorem due_skip {a b c e : Addr × Obj} {l : List (Addr × Obj)} {p : Addr × Obj} (hp : p ∈ a :: b :: c :: l) : p ∈ a :: e :: b :: c :: l := by
  rcases List.mem_cons.mp hp with h | h
  · exact h ▸ .head _
  · exact .tail _ (.tail _ h)
theorem due_lt {D : Addr} {a b : Addr × Obj} {l : List (Addr × Obj)} {P : Prop} (h : P ∧ @LT.lt Nat _ a.1 D ∧ @LT.lt Nat _ b.1 D ∧ AllLt D l) : ∀ p ∈ a :: b :: l, @LT.lt Nat _ p.1 D := allLt_mem (l := a :: b :: l) h.2
theorem dat_of {news : List (Addr × Obj)} {l : Addr} {us : List Value} {ns : List Int} {n : Nat} (hm : (l, listOf us.toArray n) ∈ news) (hI : IntsAre us ns) : DatIn news (.ref l) (.list (ns.map Dat.int)) := .list hm (dat_ints hI)
set_option maxHeartbeats 8000000 in
theorem c_due0 (w : World) (mean : ExcName → Option Value) (mg mb : Str → Option Value) (tl : List (Addr × Obj)) (l1 l2 : Addr) (us1 us2 : List Value) (ns1 ns2 : List Int) (n1 n2 : Nat) (b : Bool) (I1 : IntsAre us1 ns1) (I2 : IntsAre us2 ns2) (h1 : ns1.length ≤ 100) (h2 : ns2.length ≤ 100)
    (a1 : 0 ≤ numOf ns1) (a2 : 0 ≤ numOf ns2) (b1 : (hexOf (numOf ns1)).length ≤ 20) (b2 : (hexOf (numOf ns2)).length ≤ 20) :
    Does 20 w mean mg mb 215 [.ref l1, .ref l2, .bool b] [] ([(l1, listOf us1.toArray n1), (l2, listOf us2.toArray n2)] ++ tl) (DueR ([(l1, listOf us1.toArray n1), (l2, listOf us2.toArray n2)] ++ tl) [(l1, listOf us1.toArray n1), (l2, listOf us2.toArray n2)] (rowDue ns1 ns2 b)) (fun nx => nx = ([(l1, listOf us1.toArray n1), (l2, listOf us2.toArray n2)] ++ tl) ∧ False) := by
  intro dp un cn cs a ccd cl outer A₀ base h₀ L m s Q E B F K N T hk hdp hun hret hraise
  simp only [List.cons_append, List.nil_append] at N
  refine wpAny_call ?_
  cases b
  all_goals walk_at "my enter"
  all_goals k_steps
  · exact hret.use (news' := (_, _) :: (l1, listOf us1.toArray n1) :: (l2, listOf us2.toArray n2) :: tl) (by assumption) (news_by (by assumption) fun p hp => due_skip hp) ⟨_, _, rfl, rfl, due_lt (by assumption), .list (vs := [_, _, _, _, _, _, _, _, _]) (.head _) (.cons (.str _ _) (.cons (.int _ _) (.cons (.int _ _) (.cons .none (.cons .none (.cons (.int _ _) (.cons (dat_of (.tail _ (.head _)) I1) (.cons (dat_of (.tail _ (.tail _ (.head _))) I2) (.cons (.str _ _) .nil)))))))))⟩
  · exact hret.use (news' := (_, _) :: (l1, listOf us1.toArray n1) :: (l2, listOf us2.toArray n2) :: tl) (by assumption) (news_by (by assumption) fun p hp => due_skip hp) ⟨_, _, rfl, rfl, due_lt (by assumption), .list (vs := [_, _, _, _, _, _, _, _, _]) (.head _) (.cons (.str _ _) (.cons (.int _ _) (.cons (.int _ _) (.cons (.int _ _) (.cons (.int _ _) (.cons (.int _ _) (.cons (dat_of (.tail _ (.head _)) I1) (.cons (dat_of (.tail _ (.tail _ (.head _))) I2) (.cons (.str _ _) .nil)))))))))⟩
theorem c_due (w : World) (mean : ExcName → Option Value) (mg mb : Str → Option Value) (news : List (Addr × Obj)) (l1 l2 : Addr) (us1 us2 : List Value) (ns1 ns2 : List Int) (n1 n2 : Nat) (b : Bool) (I1 : IntsAre us1 ns1) (I2 : IntsAre us2 ns2) (o1 : Octs ns1) (o2 : Octs ns2) (h1 : ns1.length ≤ 7) (h2 : ns2.length ≤ 7)
    (m1 : (l1, listOf us1.toArray n1) ∈ news) (m2 : (l2, listOf us2.toArray n2) ∈ news) :
    Does 20 w mean mg mb 215 [.ref l1, .ref l2, .bool b] [] news (DueR news [(l1, listOf us1.toArray n1), (l2, listOf us2.toArray n2)] (rowDue ns1 ns2 b)) (fun nx => nx = news ∧ False) := by
  intro dp un cn cs a ccd cl outer A₀ base h₀ L m s Q E B F K N T hk hdp hun hret hraise
  have hs : ∀ p ∈ [(l1, listOf us1.toArray n1), (l2, listOf us2.toArray n2)] ++ news, p ∈ news := fun p hp => (List.mem_append.mp hp).elim (List.forall_mem_cons.mpr ⟨m1, List.forall_mem_cons.mpr ⟨m2, List.forall_mem_nil _⟩⟩ p) id
  refine c_due0 w mean mg mb news l1 l2 us1 us2 ns1 ns2 n1 n2 b I1 I2 (by omega) (by omega) (num_nn o1) (num_nn o2) (num_hex o1 h1) (num_hex o2 h2) dp un cn cs a ccd cl outer A₀ base h₀ L m s Q E B F K (news_by N hs) T hk hdp hun ?_ (fun nx hx => hx.2.elim)
  rintro v news' h' tk' F' N' ⟨D, o, rfl, rfl, hl, hd⟩
  refine hret.use (news' := (D, o) :: news) F' (news_by N' fun p hp => ?_) ⟨D, o, rfl, rfl, fun p hp => hl p (List.mem_append.mpr (.inr hp)), hd⟩
  rcases List.mem_cons.mp hp with e | hp
  · rw [e]; exact .head _
  · exact .tail _ (List.mem_append.mpr (.inr hp))
end
/-- the lines that were read for the part above are not those of the next one -/
theorem pause_Z17 : True ∧ True := by first | (walk1; fail) | (w_top off; exact ⟨trivial, trivial⟩)
section
theorem fill_Z18 : (PySem.Challenge.rw_fe0333_02, hd.heap_39) = (PySem.Challenge.rw_fe0333_02, hd.heap_39) := by k_fill; rfl
theorem bnum {b : Array UInt8} {ns : List Int} (h : KBw.bInts b = ns) : ((natB b : Nat) : Int) = numOf ns := by
  rw [natB_ints, h]; rfl
theorem bsize {b : Array UInt8} {ns : List Int} (h : KBw.bInts b = ns) : b.size = ns.length := by
  rw [← h, KBw.ints_length]
/-- what a made value tells, in a ledger that has grown at its head -/
def MadeR (w : World) (news : List (Addr × Obj)) (d : Dat) (r : Value) (news' : List (Addr × Obj)) : Prop := ∃ pre, news' = pre ++ news ∧ (∀ p ∈ news, ∀ q ∈ pre, @LT.lt Nat _ p.1 q.1) ∧ ToldAs w pre r d
def dRead (ns1 ns2 : List Int) : Dat := if 1 ≤ ns1.length ∧ ns1.length ≤ 5 ∧ 1 ≤ ns2.length ∧ ns2.length ≤ 4 then rowDue ns1 ns2 true else refD
def dFirst (kind : Int) (ns1 ns2 : List Int) : Dat := if kind = 4 ∨ kind = 5 ∨ kind = 6 ∨ kind = 7 then refD else dRead ns1 ns2
def dMade (ns1 ns2 : List Int) : Dat := if bareOf ns1 ≠ [] ∧ bareOf ns2 ≠ [] then rowDue (bareOf ns1) (bareOf ns2) false else refD
theorem rowDue_ok {ns1 ns2 : List Int} {b : Bool} (o1 : Octs ns1) (o2 : Octs ns2) (h1 : 1 ≤ ns1.length ∧ ns1.length ≤ 7) (h2 : 1 ≤ ns2.length ∧ ns2.length ≤ 7) : kqdOk 8 (rowDue ns1 ns2 b) = true := by
  rw [← row_due (told := b) o1 o2 rfl rfl rfl rfl rfl rfl]
  exact rowL_ok (strOk_loc (num_strOk o1 h1.2) (ok8_len.mpr ⟨h1.1, by omega⟩) (num_strOk o2 h2.2) (ok8_len.mpr ⟨h2.1, by omega⟩))
theorem dRead_ok {ns1 ns2 : List Int} (o1 : Octs ns1) (o2 : Octs ns2) : kqdOk 8 (dRead ns1 ns2) = true := by
  unfold dRead
  split
  · rename_i h; exact rowDue_ok o1 o2 ⟨h.1, by omega⟩ ⟨h.2.2.1, by omega⟩
  · exact refD_ok
theorem dFirst_ok {kind : Int} {ns1 ns2 : List Int} (o1 : Octs ns1) (o2 : Octs ns2) : kqdOk 8 (dFirst kind ns1 ns2) = true := by
  unfold dFirst
  split
  · exact refD_ok
  · exact dRead_ok o1 o2
theorem len_pos {ns : List Int} (h : ns ≠ []) : 1 ≤ ns.length := by
  cases ns with
  | nil => exact absurd rfl h
  | cons a l => simp
theorem dMade_ok {ns1 ns2 : List Int} (o1 : Octs ns1) (o2 : Octs ns2) (h1 : ns1.length ≤ 7) (h2 : ns2.length ≤ 7) : kqdOk 8 (dMade ns1 ns2) = true := by
  unfold dMade
  split
  · rename_i h
    have := bare_le ns1
    have := bare_le ns2
    exact rowDue_ok (octs_bare o1) (octs_bare o2) ⟨len_pos h.1, by omega⟩ ⟨len_pos h.2, by omega⟩
  · exact refD_ok
theorem lt63_num {ns : List Int} (o : Octs ns) (h : ns.length ≤ 7) : numOf ns < 2 ^ 63 := by
  have := num_small o h
  have : (256 : Int) ^ 7 < 2 ^ 63 := by decide
  omega
/-- a location that was made of two rows of octets, as _law_told tells it -/
theorem told_loc {w : World} {news : List (Addr × Obj)} {l x dx y dy : Addr} {nl : Nat} {k1 k2 k3 k4 k5 ka kb ta' tm' ta tm t0 t1 : Tok} {va vs fa fm : Int} {c0 c1 : Option Int} {ns1 ns2 : List Int} {told : Bool}
    (o1 : Octs ns1) (o2 : Octs ns2) (h1 : 1 ≤ ns1.length ∧ ns1.length ≤ 7) (h2 : 1 ≤ ns2.length ∧ ns2.length ≤ 7) (hva : va = numOf ns1) (hvs : vs = numOf ns2) (hfa : fa = 8 * ns1.length) (hfm : fm = 8 * ns2.length) (hc0 : c0 = if told then some fa else none) (hc1 : c1 = if told then some fm else none)
    (m1 : (l, listOf #[.ref x] nl) ∈ news) (m2 : (x, instObj 157 dx) ∈ news) (m3 : (dx, dML w va vs (cellV c0 t0) (cellV c1 t1) y k1 k2 k3 k4 k5 ta tm) ∈ news) (m4 : (y, instObj 82 dy) ∈ news) (m5 : (dy, dAl w fm fa ka kb tm' ta') ∈ news) : ToldAs w news (.ref l) (rowDue ns1 ns2 told) := by
  refine .inr ⟨l, nl, x, dx, y, dy, k1, k2, k3, k4, k5, ka, kb, ta', tm', ta, tm, t0, t1, va, vs, fa, fm, c0, c1, rfl, m1, m2, m3, m4, m5, ?_, ?_, ?_, ?_, ?_, ?_, ?_, ?_, (row_due o1 o2 hva hvs hfa hfm hc0 hc1).symm⟩
  · rw [hva]; exact num_nn o1
  · rw [hvs]; exact num_nn o2
  · rw [hva]; exact lt63_num o1 h1.2
  · rw [hvs]; exact lt63_num o2 h2.2
  · rw [hfa]; exact ok8_len.mpr ⟨h1.1, by omega⟩
  · rw [hfm]; exact ok8_len.mpr ⟨h2.1, by omega⟩
  · rw [hva]; exact num_hex o1 h1.2
  · rw [hvs]; exact num_hex o2 h2.2
theorem made_one {w : World} {tl : List (Addr × Obj)} {l : Addr} {nl : Nat} (hl : ∀ p ∈ tl, @LT.lt Nat _ p.1 l) : MadeR w tl refD (.ref l) ((l, listOf #[] nl) :: tl) :=
  ⟨[_], rfl, fun p hp q hq => by rw [List.mem_singleton.mp hq]; exact hl p hp, .inl ⟨l, nl, rfl, .head _, rfl⟩⟩
theorem made_five {w : World} {tl : List (Addr × Obj)} {l y dy x dx : Addr} {o1 o2 o3 o4 o5 : Obj} {d : Dat} {r : Value} (hl : ∀ p ∈ tl, @LT.lt Nat _ p.1 dx) (l1 : belowN dx x) (l2 : belowN x dy) (l3 : belowN dy y) (l4 : belowN y l)
    (h : ToldAs w [(l, o1), (y, o2), (dy, o3), (x, o4), (dx, o5)] r d) : MadeR w tl d r ((l, o1) :: (y, o2) :: (dy, o3) :: (x, o4) :: (dx, o5) :: tl) := by
  unfold belowN at *
  refine ⟨[_, _, _, _, _], rfl, fun p hp => ?_, h⟩
  have h0 : @LT.lt Nat _ p.1 dx := hl p hp
  have h1 : @LT.lt Nat _ p.1 x := Nat.lt_trans h0 l1
  have h2 : @LT.lt Nat _ p.1 dy := Nat.lt_trans h1 l2
  have h3 : @LT.lt Nat _ p.1 y := Nat.lt_trans h2 l3
  have h4 : @LT.lt Nat _ p.1 l := Nat.lt_trans h3 l4
  exact List.forall_mem_cons.mpr ⟨h4, List.forall_mem_cons.mpr ⟨h3, List.forall_mem_cons.mpr ⟨h2, List.forall_mem_cons.mpr ⟨h1, List.forall_mem_cons.mpr ⟨h0, List.forall_mem_nil _⟩⟩⟩⟩⟩
theorem c_readB (w : World) (mean : ExcName → Option Value) (mg mb : Str → Option Value) (tl : List (Addr × Obj)) (b1 b2 : Array UInt8) (u1 u2 : Tok) (ns1 ns2 : List Int) (e1 : KBw.bInts b1 = ns1) (e2 : KBw.bInts b2 = ns2) (o1 : Octs ns1) (o2 : Octs ns2) (h7 : ns1.length ≤ 7) (h6 : ns2.length ≤ 6) :
    DoesL 40 w mean mg mb 201 [.bytes b1 u1, .bytes b2 u2] [] tl (MadeR w tl (dRead ns1 ns2)) := by
  intro dp un cn cs a ccd cl A₀ h₀ L m s Q E B F K N T hk hdp hun hret
  have s1 := bsize e1
  have s2 := bsize e2
  refine c_read w mean mg mb tl b1 b2 u1 u2 (by omega) (by omega) dp un cn cs a ccd cl A₀ h₀ L m s Q E B F K N T hk hdp hun ?_
  rintro v news' h' tk' F' N' (⟨l, nl, rfl, hno, rfl, hl⟩ | ⟨l, nl, x, dx, y, dy, k1, k2, k3, k4, k5, ka, kb, ta', tm', ta, tm, t0, t1, rfl, hg, rfl, hl, l1, l2, l3, l4⟩)
  · rw [s1, s2] at hno
    refine hret.use F' N' ?_
    rw [show dRead ns1 ns2 = refD from if_neg hno]
    exact made_one hl
  · rw [s1, s2] at hg
    refine hret.use F' N' ?_
    rw [show dRead ns1 ns2 = rowDue ns1 ns2 true from if_pos hg]
    exact made_five hl l1 l2 l3 l4 (told_loc (c0 := some (b1.size * 8)) (c1 := some (b2.size * 8)) o1 o2 ⟨hg.1, by omega⟩ ⟨hg.2.2.1, by omega⟩ (bnum e1) (bnum e2) (by omega) (by omega) rfl rfl (.head _) (.tail _ (.tail _ (.tail _ (.head _)))) (.tail _ (.tail _ (.tail _ (.tail _ (.head _))))) (.tail _ (.head _)) (.tail _ (.tail _ (.head _))))
/-- the two handed values, of a kind -/
def HandedAs (news : List (Addr × Obj)) (kind : Int) (ns1 ns2 : List Int) (v1 v2 : Value) : Prop :=
  (¬ (kind = 4 ∨ kind = 5 ∨ kind = 6 ∨ kind = 7) ∧ ∃ b1 t1 b2 t2, v1 = .bytes b1 t1 ∧ v2 = .bytes b2 t2 ∧ KBw.bInts b1 = ns1 ∧ KBw.bInts b2 = ns2) ∨
  (kind = 4 ∧ ∃ l us n b2 t2, v1 = .ref l ∧ v2 = .bytes b2 t2 ∧ (l, listOf (List.toArray us) n) ∈ news) ∨
  (kind = 5 ∧ ∃ l us n b1 t1, v1 = .bytes b1 t1 ∧ v2 = .ref l ∧ (l, listOf (List.toArray us) n) ∈ news) ∨
  (kind = 6 ∧ ∃ x t b2 t2, v1 = .str x t ∧ v2 = .bytes b2 t2) ∨
  (kind = 7 ∧ ∃ x t b1 t1, v1 = .bytes b1 t1 ∧ v2 = .str x t)
theorem dFirst_ref {kind : Int} {ns1 ns2 : List Int} (h : kind = 4 ∨ kind = 5 ∨ kind = 6 ∨ kind = 7) : dFirst kind ns1 ns2 = refD := if_pos h
theorem c_readH (w : World) (mean : ExcName → Option Value) (mg mb : Str → Option Value) (tl : List (Addr × Obj)) (kind : Int) (ns1 ns2 : List Int) (v1 v2 : Value) (H : HandedAs tl kind ns1 ns2 v1 v2) (o1 : Octs ns1) (o2 : Octs ns2) (h7 : ns1.length ≤ 7) (h6 : ns2.length ≤ 6) :
    DoesL 40 w mean mg mb 201 [v1, v2] [] tl (MadeR w tl (dFirst kind ns1 ns2)) := by
  rcases H with ⟨hk, b1, t1, b2, t2, rfl, rfl, e1, e2⟩ | ⟨hk, l, us, n, b2, t2, rfl, rfl, hl⟩ | ⟨hk, l, us, n, b1, t1, rfl, rfl, hl⟩ | ⟨hk, x, t, b2, t2, rfl, rfl⟩ | ⟨hk, x, t, b1, t1, rfl, rfl⟩
  · rw [show dFirst kind ns1 ns2 = dRead ns1 ns2 from if_neg hk]
    exact c_readB w mean mg mb tl b1 b2 t1 t2 ns1 ns2 e1 e2 o1 o2 h7 h6
  · rw [dFirst_ref (by omega)]
    intro dp un cn cs a ccd cl A₀ h₀ L m s Q E B F K N T hk hdp hun hret
    refine c_readL1 w mean mg mb tl l us n b2 t2 hl dp un cn cs a ccd cl A₀ h₀ L m s Q E B F K N T hk hdp hun ?_
    rintro v news' h' tk' F' N' ⟨l, nl, rfl, rfl, hl⟩
    exact hret.use F' N' (made_one hl)
  · rw [dFirst_ref (by omega)]
    intro dp un cn cs a ccd cl A₀ h₀ L m s Q E B F K N T hk hdp hun hret
    refine c_readL2 w mean mg mb tl b1 t1 l us n hl dp un cn cs a ccd cl A₀ h₀ L m s Q E B F K N T hk hdp hun ?_
    rintro v news' h' tk' F' N' ⟨l, nl, rfl, rfl, hl⟩
    exact hret.use F' N' (made_one hl)
  · rw [dFirst_ref (by omega)]
    intro dp un cn cs a ccd cl A₀ h₀ L m s Q E B F K N T hk hdp hun hret
    refine c_readS1 w mean mg mb tl x t b2 t2 dp un cn cs a ccd cl A₀ h₀ L m s Q E B F K N T hk hdp hun ?_
    rintro v news' h' tk' F' N' ⟨l, nl, rfl, rfl, hl⟩
    exact hret.use F' N' (made_one hl)
  · rw [dFirst_ref (by omega)]
    intro dp un cn cs a ccd cl A₀ h₀ L m s Q E B F K N T hk hdp hun hret
    refine c_readS2 w mean mg mb tl b1 t1 x t dp un cn cs a ccd cl A₀ h₀ L m s Q E B F K N T hk hdp hun ?_
    rintro v news' h' tk' F' N' ⟨l, nl, rfl, rfl, hl⟩
    exact hret.use F' N' (made_one hl)
theorem auto_bare {ns : List Int} (o : Octs ns) : fmtOf none (numOf ns) = 8 * (bareOf ns).length := by
  show auto (numOf ns) = _
  have h := oc_num (octs_bare o) (lead_bare ns)
  rw [num_bare] at h
  show oc (numOf ns) * 8 = _
  omega
theorem c_madeT (w : World) (mean : ExcName → Option Value) (mg mb : Str → Option Value) (tl : List (Addr × Obj)) (v1 v2 : Int) (ta tm : Tok) (ns1 ns2 : List Int) (e1 : v1 = numOf ns1) (e2 : v2 = numOf ns2) (o1 : Octs ns1) (o2 : Octs ns2) (h7 : ns1.length ≤ 7) (h6 : ns2.length ≤ 7) :
    DoesL 40 w mean mg mb 208 [.int v1 ta, .int v2 tm] [] tl (MadeR w tl (dMade ns1 ns2)) := by
  intro dp un cn cs a ccd cl A₀ h₀ L m s Q E B F K N T hk hdp hun hret
  subst e1 e2
  have s1 := bare_le ns1
  have s2 := bare_le ns2
  refine c_made2 w mean mg mb tl _ _ ta tm dp un cn cs a ccd cl A₀ h₀ L m s Q E B F K N T hk hdp hun ?_
  rintro v news' h' tk' F' N' (⟨l, nl, rfl, hno, rfl, hl⟩ | ⟨l, nl, x, dx, y, dy, k1, k2, k3, k4, k5, ka, kb, ta', tm', rfl, hf1, hf2, rfl, hl, l1, l2, l3, l4⟩)
  · refine hret.use F' N' ?_
    rw [show dMade ns1 ns2 = refD from if_neg fun ⟨a, b⟩ => ?_]
    · exact made_one hl
    · rw [auto_bare o1, auto_bare o2, ok8_len.mpr ⟨len_pos a, by omega⟩, ok8_len.mpr ⟨len_pos b, by omega⟩] at hno
      cases hno
  · rw [auto_bare o1] at hf1
    rw [auto_bare o2] at hf2
    have g1 := ok8_len.mp hf1
    have g2 := ok8_len.mp hf2
    refine hret.use F' N' ?_
    rw [show dMade ns1 ns2 = rowDue (bareOf ns1) (bareOf ns2) false from if_pos ⟨fun e => by rw [e] at g1; simp at g1, fun e => by rw [e] at g2; simp at g2⟩]
    exact made_five hl l1 l2 l3 l4 (told_loc (c0 := none) (c1 := none) (octs_bare o1) (octs_bare o2) ⟨g1.1, by omega⟩ ⟨g2.1, by omega⟩ (num_bare ns1).symm (num_bare ns2).symm (auto_bare o1) (auto_bare o2) rfl rfl (.head _) (.tail _ (.tail _ (.tail _ (.head _)))) (.tail _ (.tail _ (.tail _ (.tail _ (.head _))))) (.tail _ (.head _)) (.tail _ (.tail _ (.head _))))
end
/-- the lines that were read for the part above are not those of the next one -/
theorem pause_Z18 : True ∧ True := by first | (walk1; fail) | (w_top off; exact ⟨trivial, trivial⟩)
section
theorem fill_Z19 : (PySem.Challenge.rw_fe0333_02, hd.heap_39) = (PySem.Challenge.rw_fe0333_02, hd.heap_39) := by k_fill; rfl
/-- the first statements of a body, to a state that is described; then the others -/
def Mid1 (s : Shared) (R : Heap → Prop) (f : Flow) (s' : Shared) : Prop := f = .next ∧ ∃ h tk, s' = { s with heap := h, toks := tk } ∧ R h
theorem cutL {prog : Program} {w : World} {A : Around} {E : Value → Shared → Prop} {env : Env} (pre rest : List Stmt) {s : Shared} {h₀ : Heap} {L : Addr} {m : Str → Option Value} {Q : Flow → Shared → Prop} (R : World → Heap → Addr → Heap → Prop) (_F : Fr h₀ L s.heap m)
    (h1 : wpAny (model prog w) A (execs pre env) (Mid1 s (R w h₀ L)) E s)
    (h2 : ∀ h tk, R w h₀ L h → wpAny (model prog w) A (execs rest env) Q E { s with heap := h, toks := tk }) :
    wpAny (model prog w) A (execs (pre ++ rest) env) Q E s := by
  intro Γ p₀ hΓ
  have key : ∀ (l : List Stmt) (p₁ : _) (s₁ : Shared), Sem.wp (model prog w) Γ (execs l env) (fun a _ s' => Mid1 s (R w h₀ L) a s') (fun e _ s' => E e s') p₁ s₁ → Sem.wp (model prog w) Γ (execs (l ++ rest) env) (fun a _ s' => Q a s') (fun e _ s' => E e s') p₁ s₁ := by
    intro l
    induction l with
    | nil =>
      intro p₁ s₁ h
      obtain ⟨_, h, tk, e, r⟩ : Mid1 s (R w h₀ L) .next s₁ := h
      rw [List.nil_append, e]
      exact h2 h tk r Γ p₁ hΓ
    | cons st l ih =>
      intro p₁ s₁ h
      rw [List.cons_append]
      rw [execs_cons, Sem.wp_bind'] at h ⊢
      refine Sem.wp_mono _ Γ _ (fun f p' s' h' => ?_) (fun _ _ _ h' => h') _ _ h
      cases f with
      | next => exact ih p' s' h'
      | brk => exact absurd (And.left (h' : Mid1 s (R w h₀ L) _ s')) (fun e => nomatch e)
      | cont => exact absurd (And.left (h' : Mid1 s (R w h₀ L) _ s')) (fun e => nomatch e)
      | ret v => exact absurd (And.left (h' : Mid1 s (R w h₀ L) _ s')) (fun e => nomatch e)
  exact key pre p₀ s (h1 Γ p₀ hΓ)
section
variable {prog : Program} {w : World} {A : Around} {E : Value → Shared → Prop} {env : Env} {a b c d e f g : Stmt} {rest : List Stmt} {s : Shared} {h₀ : Heap} {L : Addr} {m : Str → Option Value} {Q : Flow → Shared → Prop}
theorem cut2 (R : World → Heap → Addr → Heap → Prop) (F : Fr h₀ L s.heap m) (h1 : wpAny (model prog w) A (execs [a, b] env) (Mid1 s (R w h₀ L)) E s)
    (h2 : ∀ h tk, R w h₀ L h → wpAny (model prog w) A (execs rest env) Q E { s with heap := h, toks := tk }) : wpAny (model prog w) A (execs (a :: b :: rest) env) Q E s := cutL [a, b] rest R F h1 h2
theorem cut1 (R : World → Heap → Addr → Heap → Prop) (F : Fr h₀ L s.heap m) (h1 : wpAny (model prog w) A (execs [a] env) (Mid1 s (R w h₀ L)) E s)
    (h2 : ∀ h tk, R w h₀ L h → wpAny (model prog w) A (execs rest env) Q E { s with heap := h, toks := tk }) : wpAny (model prog w) A (execs (a :: rest) env) Q E s := cutL [a] rest R F h1 h2
theorem cut3 (R : World → Heap → Addr → Heap → Prop) (F : Fr h₀ L s.heap m) (h1 : wpAny (model prog w) A (execs [a, b, c] env) (Mid1 s (R w h₀ L)) E s)
    (h2 : ∀ h tk, R w h₀ L h → wpAny (model prog w) A (execs rest env) Q E { s with heap := h, toks := tk }) : wpAny (model prog w) A (execs (a :: b :: c :: rest) env) Q E s := cutL [a, b, c] rest R F h1 h2
theorem cut5 (R : World → Heap → Addr → Heap → Prop) (F : Fr h₀ L s.heap m) (h1 : wpAny (model prog w) A (execs [a, b, c, d, e] env) (Mid1 s (R w h₀ L)) E s)
    (h2 : ∀ h tk, R w h₀ L h → wpAny (model prog w) A (execs rest env) Q E { s with heap := h, toks := tk }) : wpAny (model prog w) A (execs (a :: b :: c :: d :: e :: rest) env) Q E s := cutL [a, b, c, d, e] rest R F h1 h2
end
theorem fmod13 (x : Int) : x.fmod 13 < 13 := by rw [Int.fmod_eq_emod_of_nonneg _ (by decide)]; exact Int.emod_lt_of_pos x (by decide)
theorem size12 {vs : List Value} {ns : List Int} {k : Nat} (hI : IntsAre vs (ns ++ [3, 2, 0, 17, 255, 0, 9])) (h : ns.length ≤ k) (hk : k ≤ 1000) : vs.toArray.size ≤ sizeLine := by
  rw [List.size_toArray, hI.length, sizeLine_eq, List.length_append]
  simp only [List.length_cons, List.length_nil]
  omega
section
variable {prog : Program} {w : World} {A : Around} {E : Value → Shared → Prop} {s : Shared} {h₀ : Heap} {L l : Addr} {m : Str → Option Value} {news : List (Addr × Obj)} {value slice : PySem.Expr} {vs : List Value} {ns : List Int} {Q : Value → Shared → Prop}
theorem ints_two {vs : List Value} {ns : List Int} (hI : IntsAre vs ns) (h3 : 2 ≤ ns.length) : ∃ a b t1 t2 ws rs, vs = .int a t1 :: .int b t2 :: ws ∧ ns = a :: b :: rs ∧ IntsAre ws rs := by
  cases hI with
  | nil => simp at h3
  | cons a t1 h =>
    cases h with
    | nil => simp at h3
    | cons b t2 h => exact ⟨a, b, t1, t2, _, _, rfl, rfl, h⟩
theorem slice12 {t13 : Tok} (F : Fr h₀ L s.heap m) (N : News h₀ L s.heap news) (hl : s.heap.IsList l vs.toArray) (hI : IntsAre vs ns) (h3 : 7 ≤ ns.length)
    (h : ∀ D a b t1 t2 ws rs h', Fr h₀ L h' m → News h₀ L h' ((D, listOf (List.toArray (.int a t1 :: .int b t2 :: ws)) 0) :: news) → (∀ p ∈ news, p.1 < D) → IntsAre ws rs → 5 ≤ rs.length → rs.length ≤ 10 → Q (.ref D) { s with heap := h' })
    (hs : subscripted slice false (.ref l) (.ref s.heap.objs.size) = operate [.ref s.heap.objs.size, .ref l] (getItem (.ref l) (.ref s.heap.objs.size))) (ht : ∀ r, letTemporaryGo value (.ref l) r = pure ()) (hz : vs.toArray.size ≤ sizeLine) :
    wpAny (model prog w) A (subscriptTail value slice (.ref l) (.ref s.heap.objs.size)) Q E { s with heap := s.heap.push { cls := .type "slice", data := .fields #[.none, .int 12 t13, .none] } } := by
  have hk := kmk_upto hI (y := 12) (by decide)
  obtain ⟨a, b, t1, t2, ws, rs, e1, e2, hI'⟩ := ints_two hk (by rw [List.length_take]; omega)
  have hlen := congrArg List.length e2
  rw [List.length_take] at hlen
  simp only [List.length_cons] at hlen
  refine kmk_slice F N hl IsPart.none (IsPart.int 12 t13) (fun D h' F' N' l1 => h D a b t1 t2 ws rs h' F' ?_ l1 hI' ?_ ?_) hs ht hz
  · rw [← e1, Array.toArray_toList]; exact N'
  · omega
  · omega
theorem slice2 {t3' : Tok} {a b : Value} {ws : List Value} (F : Fr h₀ L s.heap m) (N : News h₀ L s.heap news) (hl : s.heap.IsList l (List.toArray (a :: b :: ws))) (hw : ws.length ≤ 10)
    (h : ∀ D h', Fr h₀ L h' m → News h₀ L h' ((D, listOf (List.toArray ws) 0) :: news) → (∀ p ∈ news, p.1 < D) → Q (.ref D) { s with heap := h' })
    (hs : subscripted slice false (.ref l) (.ref s.heap.objs.size) = operate [.ref s.heap.objs.size, .ref l] (getItem (.ref l) (.ref s.heap.objs.size))) (ht : ∀ r, letTemporaryGo value (.ref l) r = pure ()) :
    wpAny (model prog w) A (subscriptTail value slice (.ref l) (.ref s.heap.objs.size)) Q E { s with heap := s.heap.push { cls := .type "slice", data := .fields #[.int 2 t3', .none, .none] } } := by
  have e : sliceBounds (some 2) none none (List.toArray (a :: b :: ws)).size = (((2 : Nat) : Int), ((ws.length + 2 : Nat) : Int), 1) := by
    simp only [sliceBounds, Option.getD_none, List.size_toArray, List.length_cons, show (1 : Int) > 0 by decide, if_true, if_neg (show ¬ ((2 : Int) < 0) by decide)]
    congr 1
    omega
  refine kmk_slice_lit (zs := ws) F N hl (IsPart.int 2 t3') IsPart.none ?_ h hs ht ?_
  · rw [kmk_pick_nat _ e]
    simp
  · rw [List.size_toArray, sizeLine_eq]
    simp only [List.length_cons]
    omega
end
section
variable {w : World} {g h : Heap} {L : Addr} {m' : Str → Option Value} {news : List (Addr × Obj)}
/-- the state behind octets = [..] -/
def MidA (_w : World) (g : Heap) (L : Addr) (h : Heap) : Prop :=
  ∃ (m' : Str → Option Value) (u v kind : Int) (tu tv tk : Tok) (lo : Addr) (os : List Value) (ns : List Int) (oc : Obj),
    Fr g L h (fun y => if y = Str.ofString "u" then some (.int u tu) else if y = Str.ofString "v" then some (.int v tv) else if y = Str.ofString "kind" then some (.int kind tk) else m' y) ∧
    News g L h [(L + 1, oc), (lo, LCg.lst os)] ∧ oc.data = .cell (some (.ref lo)) ∧ @Ne Nat (L + 1) lo ∧ IntsAre os ns ∧ Octs ns ∧ 5 ≤ ns.length ∧ ns.length ≤ 10 ∧ 0 ≤ u ∧ u ≤ 7 ∧ 0 ≤ v ∧ v ≤ 6
theorem MidA.mk {u v kind : Int} {tu tv tk : Tok} {lo : Addr} {os : List Value} {ns : List Int} {oc : Obj} (F : Fr g L h m') (N : News g L h news) (e1 : m' (Str.ofString "u") = some (.int u tu)) (e2 : m' (Str.ofString "v") = some (.int v tv)) (e3 : m' (Str.ofString "kind") = some (.int kind tk))
    (m1 : (L + 1, oc) ∈ news) (m2 : (lo, LCg.lst os) ∈ news) (d1 : oc.data = .cell (some (.ref lo))) (hne : @Ne Nat (L + 1) lo) (hI : IntsAre os ns) (ho : Octs ns) (h5 : 5 ≤ ns.length) (h10 : ns.length ≤ 10) (hu : 0 ≤ u ∧ u ≤ 7) (hv : 0 ≤ v ∧ v ≤ 6) : MidA w g L h := by
  refine ⟨m', u, v, kind, tu, tv, tk, lo, os, ns, oc, ?_, ?_, d1, hne, hI, ho, h5, h10, hu.1, hu.2, hv.1, hv.2⟩
  · have F1 := fr_pick F e3
    have F2 := fr_pick F1 (a := Str.ofString "v") (v := .int v tv) (by rw [if_neg (by decide)]; exact e2)
    exact fr_pick F2 (a := Str.ofString "u") (v := .int u tu) (by rw [if_neg (by decide), if_neg (by decide)]; exact e1)
  · exact news_by N (List.forall_mem_cons.mpr ⟨m1, List.forall_mem_cons.mpr ⟨m2, List.forall_mem_nil _⟩⟩)
theorem octs_mod {rs : List Int} : Octs (List.map (fun k' => k'.fmod 256) rs) := fun d hd => by
  obtain ⟨x, _, rfl⟩ := List.mem_map.mp hd
  rw [Int.fmod_eq_emod_of_nonneg _ (by decide)]
  omega
theorem fmod_le {x k j : Int} (hk : 0 < k) (hj : k ≤ j + 1) : 0 ≤ x.fmod k ∧ x.fmod k ≤ j := by
  rw [Int.fmod_eq_emod_of_nonneg _ (by omega)]
  have := Int.emod_nonneg x (show k ≠ 0 by omega)
  have := Int.emod_lt_of_pos x hk
  omega
end
section
variable {prog : Program} {w : World} {A : Around} {E : Value → Shared → Prop} {s : Shared} {h₀ : Heap} {L l : Addr} {m : Str → Option Value} {news : List (Addr × Obj)} {us : List Value} {ns : List Int} {n : Nat}
theorem make_B {Q : Value → Shared → Prop} (F : Fr h₀ L s.heap m) (N : News h₀ L s.heap news) (hh : A.handled = none) (hm : (l, listOf us.toArray n) ∈ news) (hi : IntsAre us ns) (hr : Octs ns) (hn : ns.length ≤ 7)
    (h : ∀ b h' t' k, Fr h₀ L h' m → News h₀ L h' news → KBw.bInts b = ns → Q (.bytes b t') { s with heap := h', toks := k }) : wpAny (model prog w) A (call (.type "bytes") [.ref l]) Q E s :=
  KBa.make_K F N hh (News.isList N hm) hi hr (by omega) fun h' t' k F' N' hI => h _ h' t' k F' N' (KBa.ints_make hI)
end
section
variable {w : World} {g h : Heap} {L : Addr} {m' : Str → Option Value} {news : List (Addr × Obj)}
/-- the state behind one, two = .. -/
def MidB (_w : World) (g : Heap) (L : Addr) (h : Heap) : Prop :=
  ∃ (m' : Str → Option Value) (kind : Int) (tu tv tk : Tok) (l1 l2 : Addr) (us1 us2 : List Value) (ns1 ns2 : List Int),
    Fr g L h (fun y => if y = Str.ofString "one" then some (.ref l1) else if y = Str.ofString "two" then some (.ref l2) else if y = Str.ofString "u" then some (.int (ns1.length : Int) tu) else if y = Str.ofString "v" then some (.int (ns2.length : Int) tv) else if y = Str.ofString "kind" then some (.int kind tk) else m' y) ∧
    News g L h [(l1, listOf us1.toArray 0), (l2, listOf us2.toArray 0)] ∧ IntsAre us1 ns1 ∧ IntsAre us2 ns2 ∧ Octs ns1 ∧ Octs ns2 ∧ ns1.length ≤ 7 ∧ ns2.length ≤ 6 ∧ @LT.lt Nat _ l1 l2
theorem MidB.mk {u v kind : Int} {tu tv tk : Tok} {l1 l2 : Addr} {us1 us2 : List Value} {ns1 ns2 : List Int} (F : Fr g L h m') (N : News g L h news) (e1 : m' (Str.ofString "u") = some (.int u tu)) (e2 : m' (Str.ofString "v") = some (.int v tv)) (e3 : m' (Str.ofString "kind") = some (.int kind tk)) (e4 : m' (Str.ofString "one") = some (.ref l1)) (e5 : m' (Str.ofString "two") = some (.ref l2))
    (m1 : (l1, listOf us1.toArray 0) ∈ news) (m2 : (l2, listOf us2.toArray 0) ∈ news) (I1 : IntsAre us1 ns1) (I2 : IntsAre us2 ns2) (o1 : Octs ns1) (o2 : Octs ns2) (hu : (ns1.length : Int) = u) (hv : (ns2.length : Int) = v) (h1 : u ≤ 7) (h2 : v ≤ 6) (hl : @LT.lt Nat _ l1 l2) : MidB w g L h := by
  subst hu hv
  refine ⟨m', kind, tu, tv, tk, l1, l2, us1, us2, ns1, ns2, ?_, news_by N (List.forall_mem_cons.mpr ⟨m1, List.forall_mem_cons.mpr ⟨m2, List.forall_mem_nil _⟩⟩), I1, I2, o1, o2, by omega, by omega, hl⟩
  have F1 := fr_pick F e3
  have F2 := fr_pick F1 (a := Str.ofString "v") (v := .int _ tv) (by rw [if_neg (by decide)]; exact e2)
  have F3 := fr_pick F2 (a := Str.ofString "u") (v := .int _ tu) (by rw [if_neg (by decide), if_neg (by decide)]; exact e1)
  have F4 := fr_pick F3 (a := Str.ofString "two") (v := .ref l2) (by rw [if_neg (by decide), if_neg (by decide), if_neg (by decide)]; exact e5)
  exact fr_pick F4 (a := Str.ofString "one") (v := .ref l1) (by rw [if_neg (by decide), if_neg (by decide), if_neg (by decide), if_neg (by decide)]; exact e4)
theorem octs_pick {ns ks : List Int} {f : Int → Nat} (h : Octs ns) : Octs (List.map (fun k' => ns.getD (f k') 0) ks) := fun d hd => by
  obtain ⟨x, _, rfl⟩ := List.mem_map.mp hd
  rw [List.getD_eq_getElem?_getD]
  by_cases e : f x < ns.length
  · rw [List.getElem?_eq_getElem e, Option.getD_some]; exact h _ (List.getElem_mem e)
  · rw [List.getElem?_eq_none (by omega)]; exact ⟨Int.le_refl _, by decide⟩
theorem octs_take {ns : List Int} (k : Nat) (h : Octs ns) : Octs (ns.take k) := fun d hd => h d (List.mem_of_mem_take hd)
theorem octs_drop {ns : List Int} (k : Nat) (h : Octs ns) : Octs (ns.drop k) := fun d hd => h d (List.mem_of_mem_drop hd)
end
theorem HandedAs.mono {a b : List (Addr × Obj)} {kind : Int} {ns1 ns2 : List Int} {v1 v2 : Value} (H : HandedAs a kind ns1 ns2 v1 v2) (hs : ∀ p ∈ a, p ∈ b) : HandedAs b kind ns1 ns2 v1 v2 := by
  rcases H with h | ⟨hk, l, us, n, b2, t2, e1, e2, hl⟩ | ⟨hk, l, us, n, b1, t1, e1, e2, hl⟩ | h | h
  · exact .inl h
  · exact .inr (.inl ⟨hk, l, us, n, b2, t2, e1, e2, hs _ hl⟩)
  · exact .inr (.inr (.inl ⟨hk, l, us, n, b1, t1, e1, e2, hs _ hl⟩))
  · exact .inr (.inr (.inr (.inl h)))
  · exact .inr (.inr (.inr (.inr h)))
theorem HandedAs.ins {a : List (Addr × Obj)} {kind : Int} {ns1 ns2 : List Int} {v1 v2 : Value} (H : HandedAs a kind ns1 ns2 v1 v2) : handedIn v1 = true ∧ handedIn v2 = true := by
  rcases H with ⟨_, b1, t1, b2, t2, rfl, rfl, _⟩ | ⟨hk, l, us, n, b2, t2, rfl, rfl, hl⟩ | ⟨hk, l, us, n, b1, t1, rfl, rfl, hl⟩ | ⟨_, x, t, b2, t2, rfl, rfl⟩ | ⟨_, x, t, b2, t2, rfl, rfl⟩ <;> exact ⟨rfl, rfl⟩
section
variable {w : World} {g h : Heap} {L : Addr} {m' : Str → Option Value} {news : List (Addr × Obj)}
/-- the state behind handed -/
def MidC (_w : World) (kind : Int) (ns1 ns2 : List Int) (g : Heap) (L : Addr) (h : Heap) : Prop :=
  ∃ (m' : Str → Option Value) (tu tv tk : Tok) (l1 l2 lh : Addr) (us1 us2 : List Value) (nh : Nat) (v1 v2 : Value) (ex : List (Addr × Obj)),
    Fr g L h (fun y => if y = Str.ofString "one" then some (.ref l1) else if y = Str.ofString "two" then some (.ref l2) else if y = Str.ofString "u" then some (.int (ns1.length : Int) tu) else if y = Str.ofString "v" then some (.int (ns2.length : Int) tv) else if y = Str.ofString "kind" then some (.int kind tk) else if y = Str.ofString "handed" then some (.ref lh) else m' y) ∧
    News g L h ((l1, listOf us1.toArray 0) :: (l2, listOf us2.toArray 0) :: (lh, listOf #[v1, v2] nh) :: ex) ∧ IntsAre us1 ns1 ∧ IntsAre us2 ns2 ∧ HandedAs ex kind ns1 ns2 v1 v2
theorem MidC.mk {kind : Int} {tu tv tk : Tok} {l1 l2 lh : Addr} {us1 us2 : List Value} {ns1 ns2 : List Int} {nh : Nat} {v1 v2 : Value} (ex : List (Addr × Obj)) (F : Fr g L h m') (N : News g L h news) (e1 : m' (Str.ofString "u") = some (.int (ns1.length : Int) tu)) (e2 : m' (Str.ofString "v") = some (.int (ns2.length : Int) tv)) (e3 : m' (Str.ofString "kind") = some (.int kind tk)) (e4 : m' (Str.ofString "one") = some (.ref l1)) (e5 : m' (Str.ofString "two") = some (.ref l2)) (e6 : m' (Str.ofString "handed") = some (.ref lh))
    (m1 : (l1, listOf us1.toArray 0) ∈ news) (m2 : (l2, listOf us2.toArray 0) ∈ news) (m3 : (lh, listOf #[v1, v2] nh) ∈ news) (I1 : IntsAre us1 ns1) (I2 : IntsAre us2 ns2) (hs : ∀ p ∈ ex, p ∈ news) (H : HandedAs ex kind ns1 ns2 v1 v2) : MidC w kind ns1 ns2 g L h := by
  refine ⟨m', tu, tv, tk, l1, l2, lh, us1, us2, nh, v1, v2, ex, ?_, news_by N (List.forall_mem_cons.mpr ⟨m1, List.forall_mem_cons.mpr ⟨m2, List.forall_mem_cons.mpr ⟨m3, hs⟩⟩⟩), I1, I2, H⟩
  have F0 := fr_pick F e6
  have F1 := fr_pick F0 (a := Str.ofString "kind") (v := .int _ tk) (by rw [if_neg (by decide)]; exact e3)
  have F2 := fr_pick F1 (a := Str.ofString "v") (v := .int _ tv) (by rw [if_neg (by decide), if_neg (by decide)]; exact e2)
  have F3 := fr_pick F2 (a := Str.ofString "u") (v := .int _ tu) (by rw [if_neg (by decide), if_neg (by decide), if_neg (by decide)]; exact e1)
  have F4 := fr_pick F3 (a := Str.ofString "two") (v := .ref l2) (by rw [if_neg (by decide), if_neg (by decide), if_neg (by decide), if_neg (by decide)]; exact e5)
  exact fr_pick F4 (a := Str.ofString "one") (v := .ref l1) (by rw [if_neg (by decide), if_neg (by decide), if_neg (by decide), if_neg (by decide), if_neg (by decide)]; exact e4)
end
theorem truthy_is {M : Model} {A : Around} {E : Value → Shared → Prop} {s : Shared} {Q : Bool → Shared → Prop} {b c : Bool} (e : b = c) (h : wpAny M A (truthy (.bool c)) Q E s) : wpAny M A (truthy (.bool b)) Q E s := e ▸ h
theorem any2 {a b k : Int} (h1 : ¬ k = a) (h2 : ¬ k = b) : ([a, b].any fun x => x == k) = false := by
  simp only [List.any_cons, List.any_nil, Bool.or_false, Bool.or_eq_false_iff, beq_eq_false_iff_ne]
  exact ⟨fun e => h1 e.symm, fun e => h2 e.symm⟩
theorem any4 {a b c d k : Int} (h1 : ¬ k = a) (h2 : ¬ k = b) (h3 : ¬ k = c) (h4 : ¬ k = d) : ([a, b, c, d].any fun x => x == k) = false := by
  simp only [List.any_cons, List.any_nil, Bool.or_false, Bool.or_eq_false_iff, beq_eq_false_iff_ne]
  exact ⟨fun e => h1 e.symm, fun e => h2 e.symm, fun e => h3 e.symm, fun e => h4 e.symm⟩
inductive ToldAll (w : World) (news : List (Addr × Obj)) : List Value → List Dat → Prop
  | nil : ToldAll w news [] []
  | cons {r : Value} {d : Dat} {rs : List Value} {ds : List Dat} (h : ToldAs w news r d) (t : ToldAll w news rs ds) : ToldAll w news (r :: rs) (d :: ds)
theorem ToldAll.mono {w : World} {a b : List (Addr × Obj)} {rs : List Value} {ds : List Dat} (h : ToldAll w a rs ds) (hs : ∀ p ∈ a, p ∈ b) : ToldAll w b rs ds := by
  induction h with
  | nil => exact .nil
  | cons h _ ih => exact .cons (h.mono hs) ih
theorem ToldAll.snoc {w : World} {a : List (Addr × Obj)} {rs : List Value} {ds : List Dat} {r : Value} {d : Dat} (h : ToldAll w a rs ds) (h1 : ToldAs w a r d) : ToldAll w a (rs ++ [r]) (ds ++ [d]) := by
  induction h with
  | nil => exact .cons h1 .nil
  | cons h _ ih => exact .cons h ih
structure Off2 (lt ld a : Addr) : Prop where
  n1 : @Ne Addr a lt
  n2 : @Ne Addr a ld
theorem off2_own {lt ld : Addr} {l : List (Addr × Obj)} (h : ∀ p ∈ l, Off2 lt ld p.1) : OwnOff l [lt, ld] := fun p hp b hb => by
  obtain ⟨h1, h2⟩ := h p hp
  rcases List.mem_cons.mp hb with e | hb
  · rw [e]; exact h1
  rcases List.mem_cons.mp hb with e | hb
  · rw [e]; exact h2
  · nomatch hb
/-- a fact laid aside -/
structure Keep9 (P : Prop) : Prop where
  out : P
section
variable {w : World} {g h : Heap} {L : Addr} {m' : Str → Option Value} {news : List (Addr × Obj)}
/-- the state behind a told and a due -/
def MidD (w : World) (ns1 ns2 : List Int) (ds : List Dat) (g : Heap) (L : Addr) (h : Heap) : Prop :=
  ∃ (m' : Str → Option Value) (lt ld l1 l2 : Addr) (us1 us2 : List Value) (nt nd : Nat) (rs qs : List Value) (tl : List (Addr × Obj)),
    Fr g L h (fun y => if y = Str.ofString "one" then some (.ref l1) else if y = Str.ofString "two" then some (.ref l2) else if y = Str.ofString "told" then some (.ref lt) else if y = Str.ofString "due" then some (.ref ld) else m' y) ∧
    News g L h ((lt, listOf rs.toArray nt) :: (ld, listOf qs.toArray nd) :: (l1, listOf us1.toArray 0) :: (l2, listOf us2.toArray 0) :: tl) ∧ IntsAre us1 ns1 ∧ IntsAre us2 ns2 ∧ ToldAll w tl rs ds ∧ DatAll tl qs ds ∧ @Ne Nat lt ld ∧ Off2 lt ld l1 ∧ Off2 lt ld l2 ∧ (∀ p ∈ tl, Off2 lt ld p.1)
theorem MidD.mk {lt ld l1 l2 : Addr} {us1 us2 : List Value} {ns1 ns2 : List Int} {nt nd : Nat} {rs qs : List Value} {ds : List Dat} (tl : List (Addr × Obj)) (F : Fr g L h m') (N : News g L h news) (e4 : m' (Str.ofString "one") = some (.ref l1)) (e5 : m' (Str.ofString "two") = some (.ref l2)) (e6 : m' (Str.ofString "told") = some (.ref lt)) (e7 : m' (Str.ofString "due") = some (.ref ld))
    (m1 : (l1, listOf us1.toArray 0) ∈ news) (m2 : (l2, listOf us2.toArray 0) ∈ news) (m3 : (lt, listOf rs.toArray nt) ∈ news) (m4 : (ld, listOf qs.toArray nd) ∈ news) (I1 : IntsAre us1 ns1) (I2 : IntsAre us2 ns2) (hs : ∀ p ∈ tl, p ∈ news) (hT : ToldAll w tl rs ds) (hD : DatAll tl qs ds) (hne : @Ne Nat lt ld) (f1 : Off2 lt ld l1) (f2 : Off2 lt ld l2) (hoff : ∀ p ∈ tl, Off2 lt ld p.1) : MidD w ns1 ns2 ds g L h := by
  refine ⟨m', lt, ld, l1, l2, us1, us2, nt, nd, rs, qs, tl, ?_, news_by N (List.forall_mem_cons.mpr ⟨m3, List.forall_mem_cons.mpr ⟨m4, List.forall_mem_cons.mpr ⟨m1, List.forall_mem_cons.mpr ⟨m2, hs⟩⟩⟩⟩), I1, I2, hT, hD, hne, f1, f2, hoff⟩
  have F1 := fr_pick F e7
  have F2 := fr_pick F1 (a := Str.ofString "told") (v := .ref lt) (by rw [if_neg (by decide)]; exact e6)
  have F3 := fr_pick F2 (a := Str.ofString "two") (v := .ref l2) (by rw [if_neg (by decide), if_neg (by decide)]; exact e5)
  exact fr_pick F3 (a := Str.ofString "one") (v := .ref l1) (by rw [if_neg (by decide), if_neg (by decide), if_neg (by decide)]; exact e4)
end
theorem apart_lts {A l : List (Addr × Obj)} (h : ∀ p ∈ l, ∀ q ∈ A, @LT.lt Nat _ p.1 q.1) : Apart A l := fun p hp q hq => Nat.ne_of_lt (h p hp q hq)
theorem off2_apart {A l : List (Addr × Obj)} {lt ld : Addr} {o1 o2 : Obj} (h : Apart A l) (m1 : (lt, o1) ∈ l) (m2 : (ld, o2) ∈ l) : ∀ p ∈ A, Off2 lt ld p.1 := fun p hp => ⟨fun e => h _ m1 p hp e.symm, fun e => h _ m2 p hp e.symm⟩
theorem ToldAs.isRef {w : World} {a : List (Addr × Obj)} {r : Value} {d : Dat} (h : ToldAs w a r d) : ∃ l, r = .ref l := by
  rcases h with ⟨l, nl, e, _⟩ | ⟨l, _, _, _, _, _, _, _, _, _, _, _, _, _, _, _, _, _, _, _, _, _, _, _, _, e, _⟩
  · exact ⟨l, e⟩
  · exact ⟨l, e⟩
theorem any4y {k : Int} (h : k = 4 ∨ k = 5 ∨ k = 6 ∨ k = 7) : ([4, 5, 6, 7].any fun x => x == k) = true := by
  rcases h with h | h | h | h <;> subst h <;> decide
theorem off2_lts {A B : List (Addr × Obj)} {lt ld : Addr} (h1 : AllLt lt (A ++ B)) (h2 : AllLt ld (A ++ B)) : ∀ p ∈ A, Off2 lt ld p.1 := fun p hp =>
  ⟨Nat.ne_of_lt (allLt_mem h1 p (List.mem_append.mpr (.inl hp))), Nat.ne_of_lt (allLt_mem h2 p (List.mem_append.mpr (.inl hp)))⟩
structure Sub9 (l l' : List (Addr × Obj)) : Prop where
  out : ∀ p ∈ l, p ∈ l'
theorem Sub9.refl {l : List (Addr × Obj)} : Sub9 l l := ⟨fun _ h => h⟩
theorem Sub9.tail {l l' : List (Addr × Obj)} {a : Addr × Obj} (h : Sub9 l l') : Sub9 l (a :: l') := ⟨fun p hp => .tail _ (h.out p hp)⟩
theorem Sub9.left {l t : List (Addr × Obj)} : Sub9 l (l ++ t) := ⟨fun _ h => List.mem_append.mpr (.inl h)⟩
theorem Sub9.right {l t a : List (Addr × Obj)} (h : Sub9 l t) : Sub9 l (a ++ t) := ⟨fun p hp => List.mem_append.mpr (.inr (h.out p hp))⟩
end
/-- the lines that were read for the part above are not those of the next one -/
theorem pause_Z19 : True ∧ True := by first | (walk1; fail) | (w_top off; exact ⟨trivial, trivial⟩)
section
theorem fill_Z20 : (PySem.Challenge.rw_fe0333_02, hd.heap_39) = (PySem.Challenge.rw_fe0333_02, hd.heap_39) := by k_fill; rfl
abbrev ltN (a b : Addr) : Prop := @LT.lt Nat _ a b
theorem close_one {w : World} {g h : Heap} {L : Addr} {m' : Str → Option Value} {lt ld l1 l2 lh la D r : Addr} {us1 us2 : List Value} {ns1 ns2 : List Int} {nt nd : Nat} {o oa oh : Obj} {pre ex : List (Addr × Obj)} {d d' : Dat}
    (F : Fr g L h m') (N : News g L h ((ld, listOf #[.ref D] nd) :: (D, o) :: (la, oa) :: (lt, listOf #[.ref r] nt) :: (l1, listOf us1.toArray 0) :: (l2, listOf us2.toArray 0) :: (lh, oh) :: (pre ++ ex)))
    (e4 : m' (Str.ofString "one") = some (.ref l1)) (e5 : m' (Str.ofString "two") = some (.ref l2)) (e6 : m' (Str.ofString "told") = some (.ref lt)) (e7 : m' (Str.ofString "due") = some (.ref ld)) (I1 : IntsAre us1 ns1) (I2 : IntsAre us2 ns2)
    (hT : ToldAs w pre (.ref r) d) (hD : DatIn [(D, o), (l1, listOf us1.toArray 0), (l2, listOf us2.toArray 0)] (.ref D) d') (ed : d = d')
    (q1 : l1 < lt ∧ l2 < lt ∧ lh < lt ∧ AllLt lt (pre ++ ex)) (q2 : D < ld ∧ la < ld ∧ lt < ld ∧ l1 < ld ∧ l2 < ld ∧ lh < ld ∧ AllLt ld (pre ++ ex)) (q3 : @LT.lt Nat _ lt D) : MidD w ns1 ns2 [d] g L h := by
  subst ed
  obtain ⟨a1, a2, a3, a4⟩ := q1
  obtain ⟨b1, b2, b3, b4, b5, b6, b7⟩ := q2
  refine MidD.mk (rs := [.ref r]) (qs := [.ref D]) ((D, o) :: (l1, listOf us1.toArray 0) :: (l2, listOf us2.toArray 0) :: pre) F N e4 e5 e6 e7 (by k_mem) (by k_mem) (by k_mem) (by k_mem) I1 I2 ?_ (.cons (hT.mono fun p hp => .tail _ (.tail _ (.tail _ hp))) .nil) (.cons (hD.mono ?_) .nil) (Nat.ne_of_lt b3) ⟨Nat.ne_of_lt a1, Nat.ne_of_lt b4⟩ ⟨Nat.ne_of_lt a2, Nat.ne_of_lt b5⟩ ?_
  · refine List.forall_mem_cons.mpr ⟨by k_mem, List.forall_mem_cons.mpr ⟨by k_mem, List.forall_mem_cons.mpr ⟨by k_mem, fun p hp => ?_⟩⟩⟩
    exact .tail _ (.tail _ (.tail _ (.tail _ (.tail _ (.tail _ (.tail _ (List.mem_append.mpr (.inl hp))))))))
  · exact List.forall_mem_cons.mpr ⟨.head _, List.forall_mem_cons.mpr ⟨.tail _ (.head _), List.forall_mem_cons.mpr ⟨.tail _ (.tail _ (.head _)), List.forall_mem_nil _⟩⟩⟩
  · refine List.forall_mem_cons.mpr ⟨⟨Ne.symm (Nat.ne_of_lt q3), Nat.ne_of_lt b1⟩, List.forall_mem_cons.mpr ⟨⟨Nat.ne_of_lt a1, Nat.ne_of_lt b4⟩, List.forall_mem_cons.mpr ⟨⟨Nat.ne_of_lt a2, Nat.ne_of_lt b5⟩, off2_lts a4 b7⟩⟩⟩
theorem dFirst_row {kind : Int} {ns1 ns2 : List Int} (hk : ¬ (kind = 4 ∨ kind = 5 ∨ kind = 6 ∨ kind = 7)) (h : 1 ≤ ns1.length ∧ ns1.length ≤ 5 ∧ 1 ≤ ns2.length ∧ ns2.length ≤ 4) : dFirst kind ns1 ns2 = rowDue ns1 ns2 true := by
  unfold dFirst dRead
  rw [if_neg hk, if_pos h]
theorem dFirst_no {kind : Int} {ns1 ns2 : List Int} (h : ¬ (1 ≤ ns1.length ∧ ns1.length ≤ 5 ∧ 1 ≤ ns2.length ∧ ns2.length ≤ 4)) : dFirst kind ns1 ns2 = refD := by
  unfold dFirst dRead
  rw [if_neg h]
  split <;> rfl
theorem ref_dat {l : Addr} {t : Tok} {n : Nat} {two : List (Addr × Obj)} : DatIn ((l, listOf #[.str (Str.ofString "refused") t] n) :: two) (.ref l) refD := .list (vs := [_]) (.head _) (.cons (.str _ _) .nil)
theorem ToldAll.length {w : World} {a : List (Addr × Obj)} {rs : List Value} {ds : List Dat} (h : ToldAll w a rs ds) : rs.length = ds.length := by
  induction h with
  | nil => rfl
  | cons _ _ ih => simp only [List.length_cons, ih]
theorem size_few {us : List Value} {ds : List Dat} (h : us.length = ds.length) (hd : ds.length ≤ 5) : us.toArray.size ≤ sizeLine := by
  rw [List.size_toArray, h, sizeLine_eq]
  omega
theorem close_two {w : World} {g h : Heap} {L : Addr} {m' : Str → Option Value} {lt ld x1 x2 D r : Addr} {vs1 vs2 rs qs : List Value} {ns1 ns2 : List Int} {nt nd : Nat} {o oa ob : Obj} {pre tl news X : List (Addr × Obj)} {d d' : Dat} {ds ds' : List Dat}
    (F : Fr g L h m') (N : News g L h news) (e4 : m' (Str.ofString "one") = some (.ref x1)) (e5 : m' (Str.ofString "two") = some (.ref x2)) (e6 : m' (Str.ofString "told") = some (.ref lt)) (e7 : m' (Str.ofString "due") = some (.ref ld))
    (m1 : (x1, listOf vs1.toArray 0) ∈ news) (m2 : (x2, listOf vs2.toArray 0) ∈ news) (m3 : (lt, listOf (rs.toArray.push (.ref r)) nt) ∈ news) (m4 : (ld, listOf (qs.toArray.push (.ref D)) nd) ∈ news) (m5 : (D, o) ∈ news) (J1 : IntsAre vs1 ns1) (J2 : IntsAre vs2 ns2) (hs : ∀ p ∈ pre ++ tl, p ∈ news)
    (hT0 : ToldAll w tl rs ds) (hD0 : DatAll tl qs ds) (hT : ToldAs w pre (.ref r) d) (hD : DatIn [(D, o), (x1, listOf vs1.toArray 0), (x2, listOf vs2.toArray 0)] (.ref D) d') (ed : d = d') (eds : ds' = ds ++ [d]) (hne : @Ne Nat lt ld) (hoff : ∀ p ∈ tl, Off2 lt ld p.1)
    (ha : Apart pre X) (ma : (lt, oa) ∈ X) (mb : (ld, ob) ∈ X) (fD : Off2 lt ld D) (f1 : Off2 lt ld x1) (f2 : Off2 lt ld x2) : MidD w ns1 ns2 ds' g L h := by
  subst ed eds
  rw [List.push_toArray] at m3 m4
  refine MidD.mk (rs := rs ++ [.ref r]) (qs := qs ++ [.ref D]) ((D, o) :: (x1, listOf vs1.toArray 0) :: (x2, listOf vs2.toArray 0) :: (pre ++ tl)) F N e4 e5 e6 e7 m1 m2 m3 m4 J1 J2 (List.forall_mem_cons.mpr ⟨m5, List.forall_mem_cons.mpr ⟨m1, List.forall_mem_cons.mpr ⟨m2, hs⟩⟩⟩) (ToldAll.snoc (hT0.mono fun p hp => ?_) (hT.mono fun p hp => ?_)) (DatAll.append (hD0.mono fun p hp => ?_) (.one (hD.mono ?_))) hne f1 f2 (List.forall_mem_cons.mpr ⟨fD, List.forall_mem_cons.mpr ⟨f1, List.forall_mem_cons.mpr ⟨f2, fun p hp => ?_⟩⟩⟩)
  · exact .tail _ (.tail _ (.tail _ (List.mem_append.mpr (.inr hp))))
  · exact .tail _ (.tail _ (.tail _ (List.mem_append.mpr (.inl hp))))
  · exact .tail _ (.tail _ (.tail _ (List.mem_append.mpr (.inr hp))))
  · exact List.forall_mem_cons.mpr ⟨.head _, List.forall_mem_cons.mpr ⟨.tail _ (.head _), List.forall_mem_cons.mpr ⟨.tail _ (.tail _ (.head _)), List.forall_mem_nil _⟩⟩⟩
  · rcases List.mem_append.mp hp with hp | hp
    · exact off2_apart ha ma mb p hp
    · exact hoff p hp
theorem dMade_n1 {ns1 ns2 : List Int} (h : decide (bareOf ns1 = []) = true) : dMade ns1 ns2 = refD := if_neg fun ⟨a, _⟩ => a (of_decide_eq_true h)
theorem dMade_n2 {ns1 ns2 : List Int} (h : decide (bareOf ns2 = []) = true) : dMade ns1 ns2 = refD := if_neg fun ⟨_, a⟩ => a (of_decide_eq_true h)
theorem dMade_y {ns1 ns2 : List Int} (h1 : decide (bareOf ns1 = []) = false) (h2 : decide (bareOf ns2 = []) = false) : dMade ns1 ns2 = rowDue (bareOf ns1) (bareOf ns2) false := if_pos ⟨of_decide_eq_false h1, of_decide_eq_false h2⟩
theorem dRead_y {ns1 ns2 : List Int} (h : 1 ≤ ns1.length ∧ ns1.length ≤ 5 ∧ 1 ≤ ns2.length ∧ ns2.length ≤ 4) : dRead ns1 ns2 = rowDue ns1 ns2 true := if_pos h
theorem dRead_n {ns1 ns2 : List Int} (h : ¬ (1 ≤ ns1.length ∧ ns1.length ≤ 5 ∧ 1 ≤ ns2.length ∧ ns2.length ≤ 4)) : dRead ns1 ns2 = refD := if_neg h
theorem told3 {w : World} {tl : List (Addr × Obj)} {rs : List Value} {d1 d2 d3 : Dat} (h : ToldAll w tl rs [d1, d2, d3]) : ∃ a b c, rs = [.ref a, .ref b, .ref c] ∧ ToldAs w tl (.ref a) d1 ∧ ToldAs w tl (.ref b) d2 ∧ ToldAs w tl (.ref c) d3 := by
  cases h with
  | cons h1 h =>
    cases h with
    | cons h2 h =>
      cases h with
      | cons h3 h =>
        cases h
        obtain ⟨a, ea⟩ := h1.isRef
        obtain ⟨b, eb⟩ := h2.isRef
        obtain ⟨c, ec⟩ := h3.isRef
        subst ea eb ec
        exact ⟨a, b, c, rfl, h1, h2, h3⟩
theorem off3_app {I C D : Addr} {A T : List (Addr × Obj)} (h : LCg.Off3 I C D T) (ha : ∀ q ∈ A, (@Ne Nat q.1 I) ∧ (@Ne Nat q.1 C) ∧ (@Ne Nat q.1 D)) : LCg.Off3 I C D (A ++ T) := by
  induction A with
  | nil => exact h
  | cons q A ih => exact ⟨ha q (.head _), ih fun p hp => ha p (.tail _ hp)⟩
theorem off3_4 {I C D : Addr} {oI oC oD : Obj} {p1 p2 p3 p4 : Addr × Obj} {A T X : List (Addr × Obj)} (h : LCg.Off3 I C D (p1 :: p2 :: p3 :: p4 :: T)) (ha : Apart A ((I, oI) :: (C, oC) :: (D, oD) :: X)) : LCg.Off3 I C D (p1 :: p2 :: p3 :: p4 :: (A ++ T)) :=
  ⟨h.1, h.2.1, h.2.2.1, h.2.2.2.1, off3_app h.2.2.2.2 fun q hq => ⟨Ne.symm (ha _ (.head _) q hq), Ne.symm (ha _ (.tail _ (.head _)) q hq), Ne.symm (ha _ (.tail _ (.tail _ (.head _))) q hq)⟩⟩
theorem eq_fin2 {prog : Program} {w : World} {A : Around} {E : Value → Shared → Prop} {s : Shared} {h₀ : Heap} {L D ld : Addr} {news tl A1 A2 A3 : List (Addr × Obj)} {qs : List Value} {d1 d2 d3 : Dat} {v1 v2 v3 : Value} {nd : Nat} {Q : Value → Shared → Prop} (N : News h₀ L s.heap news) (ma : (D, LCg.lst [v1, v2, v3]) ∈ news) (mb : (ld, listOf qs.toArray nd) ∈ news)
    (h1 : DatIn A1 v1 d1) (h2 : DatIn A2 v2 d2) (h3 : DatIn A3 v3 d3) (Db : DatAll tl qs [d1, d2, d3]) (s1 : ∀ p ∈ A1, p ∈ news) (s2 : ∀ p ∈ A2, p ∈ news) (s3 : ∀ p ∈ A3, p ∈ news) (sl : ∀ p ∈ tl, p ∈ news) (k1 : kqdOk 8 d1 = true) (k2 : kqdOk 8 d2 = true) (k3 : kqdOk 8 d3 = true) (hu : A.units + 64 < cLine) (h : Q (.bool true) s) : wpAny (model prog w) A (compareOp .Eq (.ref D) (.ref ld)) Q E s := by
  have hall : ∀ e ∈ [d1, d2, d3], kqdOk 8 e = true := List.forall_mem_cons.mpr ⟨k1, List.forall_mem_cons.mpr ⟨k2, List.forall_mem_cons.mpr ⟨k3, List.forall_mem_nil _⟩⟩⟩
  refine kqd_eq (n₁ := news) (n₂ := news) (ds := [d1, d2, d3]) (es := [d1, d2, d3]) N ma rfl rfl (.cons (h1.mono s1) (.cons (h2.mono s2) (.cons (h3.mono s3) .nil))) (fun _ q => q) mb rfl rfl (Db.mono sl) (fun _ q => q) hall hall hu ?_
  classical
  have e9 : Q (.bool true) s := h
  simpa using e9
section
variable {w : World} {g h : Heap} {L : Addr} {m' : Str → Option Value} {news : List (Addr × Obj)}
theorem MidC.mk4 {tu tv tk : Tok} {l1 l2 lh D : Addr} {us1 us2 us : List Value} {ns1 ns2 : List Int} {nh n : Nat} {b2 : Array UInt8} {t2 : Tok} (F : Fr g L h m') (N : News g L h news) (e1 : m' (Str.ofString "u") = some (.int (ns1.length : Int) tu)) (e2 : m' (Str.ofString "v") = some (.int (ns2.length : Int) tv)) (e3 : m' (Str.ofString "kind") = some (.int 4 tk)) (e4 : m' (Str.ofString "one") = some (.ref l1)) (e5 : m' (Str.ofString "two") = some (.ref l2)) (e6 : m' (Str.ofString "handed") = some (.ref lh))
    (m1 : (l1, listOf us1.toArray 0) ∈ news) (m2 : (l2, listOf us2.toArray 0) ∈ news) (m3 : (lh, listOf #[.ref D, .bytes b2 t2] nh) ∈ news) (m4 : (D, listOf us.toArray n) ∈ news) (I1 : IntsAre us1 ns1) (I2 : IntsAre us2 ns2) : MidC w 4 ns1 ns2 g L h :=
  MidC.mk [(D, listOf us.toArray n)] F N e1 e2 e3 e4 e5 e6 m1 m2 m3 I1 I2 (List.forall_mem_cons.mpr ⟨m4, List.forall_mem_nil _⟩) (.inr (.inl ⟨rfl, _, _, _, _, _, rfl, rfl, .head _⟩))
theorem MidC.mk5 {tu tv tk : Tok} {l1 l2 lh D : Addr} {us1 us2 us : List Value} {ns1 ns2 : List Int} {nh n : Nat} {b1 : Array UInt8} {t1 : Tok} (F : Fr g L h m') (N : News g L h news) (e1 : m' (Str.ofString "u") = some (.int (ns1.length : Int) tu)) (e2 : m' (Str.ofString "v") = some (.int (ns2.length : Int) tv)) (e3 : m' (Str.ofString "kind") = some (.int 5 tk)) (e4 : m' (Str.ofString "one") = some (.ref l1)) (e5 : m' (Str.ofString "two") = some (.ref l2)) (e6 : m' (Str.ofString "handed") = some (.ref lh))
    (m1 : (l1, listOf us1.toArray 0) ∈ news) (m2 : (l2, listOf us2.toArray 0) ∈ news) (m3 : (lh, listOf #[.bytes b1 t1, .ref D] nh) ∈ news) (m4 : (D, listOf us.toArray n) ∈ news) (I1 : IntsAre us1 ns1) (I2 : IntsAre us2 ns2) : MidC w 5 ns1 ns2 g L h :=
  MidC.mk [(D, listOf us.toArray n)] F N e1 e2 e3 e4 e5 e6 m1 m2 m3 I1 I2 (List.forall_mem_cons.mpr ⟨m4, List.forall_mem_nil _⟩) (.inr (.inr (.inl ⟨rfl, _, _, _, _, _, rfl, rfl, .head _⟩)))
end
end
/-- the lines that were read for the part above are not those of the next one -/
theorem pause_Z20 : True ∧ True := by first | (walk1; fail) | (w_top off; exact ⟨trivial, trivial⟩)
section
theorem fill_ZLF : (PySem.Challenge.rw_fe0333_02, hd.heap_39) = (PySem.Challenge.rw_fe0333_02, hd.heap_39) := by k_fill; rfl
local macro_rules | `(tactic| walk_at "binaryOp Pow int int") => `(tactic| (k_here; (with_reducible refine pow_int_small ?kb1 ?kb2 ?kb3 ?_); (case kb1 => first | decide | exact fmod_nn _ (by decide)); (case kb2 => first | decide | exact fmod_le6 _ (by decide) (by decide)); (case kb3 => decide)))
local macro_rules | `(tactic| walk_at "getMethod ref") => `(tactic| (k_here; (with_reducible show wpAny _ _ (getMethod (Value.ref 57) (Str.ofString "keys") _) _ _ _); refine keys_get (keyed57 (by k_asm)) (by k_asm) ?_))
local macro_rules | `(tactic| walk_at "getMethod ref") => `(tactic| (k_here; (with_reducible show wpAny _ _ (getMethod (Value.ref 58) (Str.ofString "keys") _) _ _ _); refine keys_get (keyed58 (by k_asm)) (by k_asm) ?_))
local macro_rules | `(tactic| walk_at "call builtin:dict.keys") => `(tactic| (k_here; (with_reducible show wpAny _ _ (call (Value.builtin "dict.keys") [Value.ref _]) _ _ _); (first | (refine keys_call (keyed57 (by k_asm)) (by k_asm) (by k_asm) ?_) | (refine keys_call (keyed58 (by k_asm)) (by k_asm) (by k_asm) ?_)); intro V' h' F' N' l1; (try k_lt l1)))
local macro_rules | `(tactic| walk_at "call type:list") => `(tactic| (k_here; (with_reducible show wpAny _ _ (call (Value.type _) [Value.ref _]) _ _ _); (first | (refine keys_list (keyed57 (by k_asm)) rfl (by k_asm) (by k_asm) (by k_mem) ?_) | (refine keys_list (keyed58 (by k_asm)) rfl (by k_asm) (by k_asm) (by k_mem) ?_)); intro B' c' h' tk' t1 t2 t3 t4 t5 t6 t7 t8 F' N' l1; (try k_lt l1)))
local macro_rules | `(tactic| walk_at "binaryOp Mod str ref") => `(tactic| (k_here; (with_reducible show wpAny _ _ (binaryOp Operator.Mod (Value.str (Str.ofString "address_format must be an integer selected from : %s ") _) (Value.ref _)) _ _ _); refine' text1 ?a1 ?a2 ?a3 ?g ?u ?_; (case a1 => k_asm); (case a2 => k_asm); (case a3 => k_mem); (case g => (first | (simp only [guards_deeper, guards_make]; done) | ((try simp only [guards_deeper, guards_make]); rfl))); (case u => (have hc9 := cLine_is; (try simp only [units_make, units_deeper, units_in1]); (try dsimp only [ktrTop]); omega)); intro t' h' tk' F' N'))
local macro_rules | `(tactic| walk_at "binaryOp Mod str ref") => `(tactic| (k_here; (with_reducible show wpAny _ _ (binaryOp Operator.Mod (Value.str (Str.ofString "memorysize_format must be an integer selected from : %s") _) (Value.ref _)) _ _ _); refine' text2 ?a1 ?a2 ?a3 ?g ?u ?_; (case a1 => k_asm); (case a2 => k_asm); (case a3 => k_mem); (case g => (first | (simp only [guards_deeper, guards_make]; done) | ((try simp only [guards_deeper, guards_make]); rfl))); (case u => (have hc9 := cLine_is; (try simp only [units_make, units_deeper, units_in1]); (try dsimp only [ktrTop]); omega)); intro t' h' tk' F' N'))
local macro_rules | `(tactic| walk_at "my enter") => `(tactic| k_dflt (refine' code_def ?k1 ?k2 ?k3 ?k4 ?k5 ?kA ?kF ?kK ?k6 ?k7 ?k8 ?k9 ?kB ?_ ?c2 ?c3 ?c4 ?c5; (case kA => exact rfl); (case kF => exact rfl); (case kK => first | assumption | exact rfl); (case k1 => k_asm); (case k2 => k_asm); (case k3 => k_asm); (case k4 => k_asm); (case k5 => k_asm); (case k6 => k_is); (case k7 => k_is); (case k8 => ((try simp only [depth_make, depth_deeper, depth_in1]); (try dsimp only [ktrTop]); omega)); (case k9 => first | exact BindsTo.of_eq rfl | exact binds_K (by k_in) rfl (by k_is) rfl rfl rfl); (case c5 => decide); (case kB => exact locs rfl); (case c2 => exact rfl); (case c3 => exact rfl); (case c4 => exact rfl); k_whole; intro g' L' h' FG' F' N' B' X' T'; (try dsimp only); (try k_fold)))
local macro_rules | `(tactic| walk_at "my make") => `(tactic| (k_dflt (refine' call_cls ?k1 ?k2 ?k3 ?k4 ?k5 ?k6 ?_; (case k1 => k_asm); (case k2 => k_asm); (case k3 => k_asm); (case k4 => k_is); (case k5 => k_is); (case k6 => k_is); k_whole; intro x' d' h' F' N' l1 l2; (try k_lt l1); (try k_lt2 l2); (try k_sweep)); walk_at "my enter"))
local macro_rules | `(tactic| walk_at "my room") => `(tactic| first | ((try simp only [depth_make, depth_deeper, depth_in1, units_make, units_deeper, units_in1]); (try dsimp only [ktrTop]); omega) | decide | (with_unfolding_all decide))
local macro_rules | `(tactic| walk_at "leaving ref") => `(tactic| (k_here; first | (refine' leave_raiseS ?k1 ?k0 ?k2 ?k3 ?_; (case k0 => first | assumption | exact Heap.MadeExc.of (by assumption)); (case k2 => assumption); (case k1 => assumption); (case k3 => k_asm); k_whole; intro h' t' S' R' U'; (try dsimp only at S' R' U' ⊢)) | (refine' leave_onS ?k1 ?k2 ?k3 ?k4 ?_; (case k3 => assumption); (case k2 => assumption); (case k1 => assumption); (case k4 => assumption); k_whole; intro h' S' R' U'; (try dsimp only at S' R' U' ⊢))))
local macro_rules | `(tactic| walk_at "my sub") => `(tactic| ((repeat' (refine List.forall_mem_cons.mpr ⟨by k_mem, ?_⟩)); (intro p hp; repeat (first | exact hp | apply List.Mem.tail))))
local macro_rules | `(tactic| walk_at "my no") => `(tactic| first | assumption | exact and_no1 (by assumption) | exact and_no2 (by assumption) | exact and_no1 (no8 (by assumption)) | exact and_no2 (no8 (by assumption)))
local macro_rules | `(tactic| walk_at "my raise") => `(tactic| ((try dsimp only [InitBack]); refine' Rai.use2 ?H ?C ?U ?F ?R ?S; (case H => assumption); (case C => walk_at "my no"); (case U => assumption); (case F => assumption); (case R => assumption); (case S => walk_at "my sub")))
local macro_rules | `(tactic| walk_at "call type:bytes") => `(tactic| (k_here; (with_reducible show wpAny _ _ (call (Value.type "bytes") [Value.ref _]) _ _ _); k_dflt (refine' make_B ?F ?N ?hh ?hm ?hi ?hr ?hn ?_; (case F => k_asm); (case N => k_asm); (case hh => rfl); (case hm => k_mem); (case hi => with_reducible assumption); (case hr => with_reducible assumption); (case hn => first | with_reducible assumption | omega)); intro b9 h' t9 k9 F' N' hB9))
local macro_rules | `(tactic| walk_at "pyIter bytes") => `(tactic| (k_here; k_dflt (refine' comp_bytes ?hh ?hb ?F ?N ?hkd ?hx ?hd ?_; (case hh => exact rfl); (case F => k_asm); (case N => k_asm); (case hb => (rw [← KBw.ints_length]; simp only [*]; omega)); (case hkd => exact rfl); (case hx => exact rfl); (case hd => decide)); intro D' ws' n' h' tk' F' N' hD' hI'; (try simp only [List.forall_mem_cons, List.not_mem_nil, false_implies, forall_const, and_true] at hD')))
local macro_rules | `(tactic| walk_at "truthy bool") => `(tactic| (k_here; (first | refine truthy_is (c := false) (by with_reducible assumption) ?_ | refine truthy_is (c := true) (by with_reducible assumption) ?_)))
local macro_rules | `(tactic| walk_at "my allt") => `(tactic| first | (with_reducible assumption) | exact (by with_reducible assumption : _ ∧ AllLt _ _).2 | exact (by with_reducible assumption : _ ∧ _ ∧ AllLt _ _).2.2 | exact (by with_reducible assumption : _ ∧ _ ∧ _ ∧ AllLt _ _).2.2.2 | exact (by with_reducible assumption : _ ∧ _ ∧ _ ∧ _ ∧ AllLt _ _).2.2.2.2 | exact (by with_reducible assumption : _ ∧ _ ∧ _ ∧ _ ∧ _ ∧ AllLt _ _).2.2.2.2.2 | exact (by with_reducible assumption : _ ∧ _ ∧ _ ∧ _ ∧ _ ∧ _ ∧ AllLt _ _).2.2.2.2.2.2 | exact (by with_reducible assumption : _ ∧ _ ∧ _ ∧ _ ∧ _ ∧ _ ∧ _ ∧ AllLt _ _).2.2.2.2.2.2.2 | exact (by with_reducible assumption : _ ∧ _ ∧ _ ∧ _ ∧ _ ∧ _ ∧ _ ∧ _ ∧ AllLt _ _).2.2.2.2.2.2.2.2 | exact (by with_reducible assumption : _ ∧ _ ∧ _ ∧ _ ∧ _ ∧ _ ∧ _ ∧ _ ∧ _ ∧ AllLt _ _).2.2.2.2.2.2.2.2.2 | exact (by with_reducible assumption : _ ∧ _ ∧ _ ∧ _ ∧ _ ∧ _ ∧ _ ∧ _ ∧ _ ∧ _ ∧ AllLt _ _).2.2.2.2.2.2.2.2.2.2 | exact (by with_reducible assumption : _ ∧ _ ∧ _ ∧ _ ∧ _ ∧ _ ∧ _ ∧ _ ∧ _ ∧ _ ∧ _ ∧ AllLt _ _).2.2.2.2.2.2.2.2.2.2.2 | exact (by with_reducible assumption : _ ∧ _ ∧ _ ∧ _ ∧ _ ∧ _ ∧ _ ∧ _ ∧ _ ∧ _ ∧ _ ∧ _ ∧ AllLt _ _).2.2.2.2.2.2.2.2.2.2.2.2 | exact (by with_reducible assumption : _ ∧ _ ∧ _ ∧ _ ∧ _ ∧ _ ∧ _ ∧ _ ∧ _ ∧ _ ∧ _ ∧ _ ∧ _ ∧ AllLt _ _).2.2.2.2.2.2.2.2.2.2.2.2.2 | exact (by with_reducible assumption : _ ∧ _ ∧ _ ∧ _ ∧ _ ∧ _ ∧ _ ∧ _ ∧ _ ∧ _ ∧ _ ∧ _ ∧ _ ∧ _ ∧ AllLt _ _).2.2.2.2.2.2.2.2.2.2.2.2.2.2 | exact (by with_reducible assumption : _ ∧ _ ∧ _ ∧ _ ∧ _ ∧ _ ∧ _ ∧ _ ∧ _ ∧ _ ∧ _ ∧ _ ∧ _ ∧ _ ∧ _ ∧ AllLt _ _).2.2.2.2.2.2.2.2.2.2.2.2.2.2.2 | exact (by with_reducible assumption : _ ∧ _ ∧ _ ∧ _ ∧ _ ∧ _ ∧ _ ∧ _ ∧ _ ∧ _ ∧ _ ∧ _ ∧ _ ∧ _ ∧ _ ∧ _ ∧ AllLt _ _).2.2.2.2.2.2.2.2.2.2.2.2.2.2.2.2 | exact (by with_reducible assumption : _ ∧ _ ∧ _ ∧ _ ∧ _ ∧ _ ∧ _ ∧ _ ∧ _ ∧ _ ∧ _ ∧ _ ∧ _ ∧ _ ∧ _ ∧ _ ∧ _ ∧ AllLt _ _).2.2.2.2.2.2.2.2.2.2.2.2.2.2.2.2.2 | exact (by with_reducible assumption : _ ∧ _ ∧ _ ∧ _ ∧ _ ∧ _ ∧ _ ∧ _ ∧ _ ∧ _ ∧ _ ∧ _ ∧ _ ∧ _ ∧ _ ∧ _ ∧ _ ∧ _ ∧ AllLt _ _).2.2.2.2.2.2.2.2.2.2.2.2.2.2.2.2.2.2 | exact (by with_reducible assumption : _ ∧ _ ∧ _ ∧ _ ∧ _ ∧ _ ∧ _ ∧ _ ∧ _ ∧ _ ∧ _ ∧ _ ∧ _ ∧ _ ∧ _ ∧ _ ∧ _ ∧ _ ∧ _ ∧ AllLt _ _).2.2.2.2.2.2.2.2.2.2.2.2.2.2.2.2.2.2.2 | exact (by with_reducible assumption : _ ∧ _ ∧ _ ∧ _ ∧ _ ∧ _ ∧ _ ∧ _ ∧ _ ∧ _ ∧ _ ∧ _ ∧ _ ∧ _ ∧ _ ∧ _ ∧ _ ∧ _ ∧ _ ∧ _ ∧ AllLt _ _).2.2.2.2.2.2.2.2.2.2.2.2.2.2.2.2.2.2.2.2 | exact (by with_reducible assumption : _ ∧ _ ∧ _ ∧ _ ∧ _ ∧ _ ∧ _ ∧ _ ∧ _ ∧ _ ∧ _ ∧ _ ∧ _ ∧ _ ∧ _ ∧ _ ∧ _ ∧ _ ∧ _ ∧ _ ∧ _ ∧ AllLt _ _).2.2.2.2.2.2.2.2.2.2.2.2.2.2.2.2.2.2.2.2.2 | exact (by with_reducible assumption : _ ∧ _ ∧ _ ∧ _ ∧ _ ∧ _ ∧ _ ∧ _ ∧ _ ∧ _ ∧ _ ∧ _ ∧ _ ∧ _ ∧ _ ∧ _ ∧ _ ∧ _ ∧ _ ∧ _ ∧ _ ∧ _ ∧ AllLt _ _).2.2.2.2.2.2.2.2.2.2.2.2.2.2.2.2.2.2.2.2.2.2 | exact (by with_reducible assumption : _ ∧ _ ∧ _ ∧ _ ∧ _ ∧ _ ∧ _ ∧ _ ∧ _ ∧ _ ∧ _ ∧ _ ∧ _ ∧ _ ∧ _ ∧ _ ∧ _ ∧ _ ∧ _ ∧ _ ∧ _ ∧ _ ∧ _ ∧ AllLt _ _).2.2.2.2.2.2.2.2.2.2.2.2.2.2.2.2.2.2.2.2.2.2.2 | exact (by with_reducible assumption : _ ∧ _ ∧ _ ∧ _ ∧ _ ∧ _ ∧ _ ∧ _ ∧ _ ∧ _ ∧ _ ∧ _ ∧ _ ∧ _ ∧ _ ∧ _ ∧ _ ∧ _ ∧ _ ∧ _ ∧ _ ∧ _ ∧ _ ∧ _ ∧ AllLt _ _).2.2.2.2.2.2.2.2.2.2.2.2.2.2.2.2.2.2.2.2.2.2.2.2 | exact (by with_reducible assumption : _ ∧ _ ∧ _ ∧ _ ∧ _ ∧ _ ∧ _ ∧ _ ∧ _ ∧ _ ∧ _ ∧ _ ∧ _ ∧ _ ∧ _ ∧ _ ∧ _ ∧ _ ∧ _ ∧ _ ∧ _ ∧ _ ∧ _ ∧ _ ∧ _ ∧ AllLt _ _).2.2.2.2.2.2.2.2.2.2.2.2.2.2.2.2.2.2.2.2.2.2.2.2.2)
local macro_rules | `(tactic| walk_at "my sub9") => `(tactic| (apply Sub9.out; repeat (first | with_reducible exact Sub9.refl | with_reducible exact Sub9.left | with_reducible refine Sub9.tail ?_ | with_reducible refine Sub9.right ?_)))
local macro_rules | `(tactic| walk_at "my ins") => `(tactic| ((repeat apply Ins.cons); apply Ins.last))
local macro_rules | `(tactic| k_handed) => `(tactic| with_reducible assumption)
local macro_rules | `(tactic| walk_at "my one") => `(tactic| (refine ⟨rfl, _, _, rfl, ?_⟩; refine' close_one ?F ?N ?e4 ?e5 ?e6 ?e7 ?I1 ?I2 ?hT ?hD ?ed ?q1 ?q2 ?q3; (case F => k_asm); (case N => k_asm); (case e4 => exact rfl); (case e5 => exact rfl); (case e6 => exact rfl); (case e7 => exact rfl); (case I1 => with_reducible assumption); (case I2 => with_reducible assumption); (case hT => with_reducible assumption); (case hD => first | exact ref_dat | with_reducible assumption); (case q1 => with_reducible assumption); (case q2 => with_reducible assumption); (case q3 => omega); (case ed => first | exact dFirst_ref (by assumption) | exact dFirst_row (by assumption) (by omega) | exact dFirst_no (by omega))))
local macro_rules | `(tactic| walk_at "my hand") => `(tactic| ((case F => k_asm); (case N => k_asm); (case e1 => exact rfl); (case e2 => exact rfl); (case e3 => exact rfl); (case e4 => exact rfl); (case e5 => exact rfl); (case e6 => exact rfl); (case m1 => k_mem); (case m2 => k_mem); (case m3 => k_mem); (case I1 => with_reducible assumption); (case I2 => with_reducible assumption)))
local macro_rules | `(tactic| walk_at "my hand0") => `(tactic| (refine ⟨rfl, _, _, rfl, ?_⟩; refine' MidC.mk [] ?F ?N ?e1 ?e2 ?e3 ?e4 ?e5 ?e6 ?m1 ?m2 ?m3 ?I1 ?I2 (List.forall_mem_nil _) ?H; walk_at "my hand"; (case H => exact .inl ⟨by assumption, _, _, _, _, rfl, rfl, by with_reducible assumption, by with_reducible assumption⟩)))
local macro_rules | `(tactic| walk_at "my hand4") => `(tactic| (refine ⟨rfl, _, _, rfl, ?_⟩; refine' MidC.mk4 ?F ?N ?e1 ?e2 ?e3 ?e4 ?e5 ?e6 ?m1 ?m2 ?m3 ?m4 ?I1 ?I2; walk_at "my hand"; (case m4 => k_mem)))
local macro_rules | `(tactic| walk_at "my hand5") => `(tactic| (refine ⟨rfl, _, _, rfl, ?_⟩; refine' MidC.mk5 ?F ?N ?e1 ?e2 ?e3 ?e4 ?e5 ?e6 ?m1 ?m2 ?m3 ?m4 ?I1 ?I2; walk_at "my hand"; (case m4 => k_mem)))
local macro_rules | `(tactic| walk_at "my hand6") => `(tactic| (refine ⟨rfl, _, _, rfl, ?_⟩; refine' MidC.mk [] ?F ?N ?e1 ?e2 ?e3 ?e4 ?e5 ?e6 ?m1 ?m2 ?m3 ?I1 ?I2 (List.forall_mem_nil _) ?H; walk_at "my hand"; (case H => exact .inr (.inr (.inr (.inl ⟨rfl, _, _, _, _, rfl, rfl⟩)))))) 
local macro_rules | `(tactic| walk_at "my hand7") => `(tactic| (refine ⟨rfl, _, _, rfl, ?_⟩; refine' MidC.mk [] ?F ?N ?e1 ?e2 ?e3 ?e4 ?e5 ?e6 ?m1 ?m2 ?m3 ?I1 ?I2 (List.forall_mem_nil _) ?H; walk_at "my hand"; (case H => exact .inr (.inr (.inr (.inr ⟨rfl, _, _, _, _, rfl, rfl⟩))))))
local macro_rules | `(tactic| walk_at "call ref") => `(tactic| (k_here; (with_reducible show wpAny _ _ (call (Value.ref 201) [_, _] _) _ _ _); k_dflt (refine' c_readH _ _ _ _ _ _ _ _ _ _ ?hH ?o1 ?o2 ?h7 ?h6 _ _ _ _ _ _ _ _ _ _ _ _ _ _ ?k1 ?k2 ?k3 ?k4 ?k5 ?kK ?kd ?ku ?_; (case k1 => k_asm); (case k2 => k_asm); (case k3 => k_asm); (case k4 => k_asm); (case k5 => k_asm); (case hH => exact HandedAs.mono (by with_reducible assumption) (by walk_at "my sub9")); (case o1 => with_reducible assumption); (case o2 => with_reducible assumption); (case h7 => first | with_reducible assumption | omega); (case h6 => first | with_reducible assumption | omega); (case kK => first | exact rfl | assumption); (case kd => walk_at "my room"); (case ku => walk_at "my room"); (unfold Bck; intro v9 n9 h' tk' F' N' r9; obtain ⟨pre9, e9, hl9, hT9⟩ := r9; subst e9; (have ha9 := apart_lts hl9); clear hl9; (have ⟨l9, e8⟩ := ToldAs.isRef hT9); subst e8; (have N2 := ins_news N' (by walk_at "my ins")); clear N'; (try dsimp only); (try k_fold)))))
local macro_rules | `(tactic| walk_at "call ref") => `(tactic| (k_here; (with_reducible show wpAny _ _ (call (Value.ref 201) [Value.bytes _ _, Value.bytes _ _] _) _ _ _); k_dflt (refine' c_readB _ _ _ _ _ _ _ _ _ _ _ ?e1 ?e2 ?o1 ?o2 ?h7 ?h6 _ _ _ _ _ _ _ _ _ _ _ _ _ _ ?k1 ?k2 ?k3 ?k4 ?k5 ?kK ?kd ?ku ?_; (case k1 => k_asm); (case k2 => k_asm); (case k3 => k_asm); (case k4 => k_asm); (case k5 => k_asm); (case e1 => with_reducible assumption); (case e2 => with_reducible assumption); (case o1 => with_reducible assumption); (case o2 => with_reducible assumption); (case h7 => first | with_reducible assumption | omega); (case h6 => first | with_reducible assumption | omega); (case kK => first | exact rfl | assumption); (case kd => walk_at "my room"); (case ku => walk_at "my room"); (unfold Bck; intro v9 n9 h' tk' F' N' r9; obtain ⟨pre9, e9, hl9, hT9⟩ := r9; subst e9; (have ha9 := apart_lts hl9); clear hl9; (have ⟨l9, e8⟩ := ToldAs.isRef hT9); subst e8; (have N2 := ins_news N' (by walk_at "my ins")); clear N'; (try dsimp only); (try k_fold)))))
local macro_rules | `(tactic| walk_at "call ref") => `(tactic| (k_here; (with_reducible show wpAny _ _ (call (Value.ref 208) [Value.int _ _, Value.int _ _] _) _ _ _); k_dflt (refine' c_madeT _ _ _ _ _ _ _ _ _ _ _ ?e1 ?e2 ?o1 ?o2 ?h7 ?h6 _ _ _ _ _ _ _ _ _ _ _ _ _ _ ?k1 ?k2 ?k3 ?k4 ?k5 ?kK ?kd ?ku ?_; (case k1 => k_asm); (case k2 => k_asm); (case k3 => k_asm); (case k4 => k_asm); (case k5 => k_asm); (case e1 => exact rfl); (case e2 => exact rfl); (case o1 => with_reducible assumption); (case o2 => with_reducible assumption); (case h7 => first | with_reducible assumption | omega); (case h6 => first | with_reducible assumption | omega); (case kK => first | exact rfl | assumption); (case kd => walk_at "my room"); (case ku => walk_at "my room"); (unfold Bck; intro v9 n9 h' tk' F' N' r9; obtain ⟨pre9, e9, hl9, hT9⟩ := r9; subst e9; (have ha9 := apart_lts hl9); clear hl9; (have ⟨l9, e8⟩ := ToldAs.isRef hT9); subst e8; (have N2 := ins_news N' (by walk_at "my ins")); clear N'; (try dsimp only); (try k_fold)))))
local macro_rules | `(tactic| walk_at "call ref") => `(tactic| (k_here; (with_reducible show wpAny _ _ (call (Value.ref 215) [Value.ref _, Value.ref _, Value.bool _] _) _ _ _); k_dflt (refine' c_due _ _ _ _ _ _ _ _ _ _ _ _ _ _ ?I1 ?I2 ?o1 ?o2 ?h1 ?h2 ?m1 ?m2 _ _ _ _ _ _ _ _ _ _ _ _ _ _ _ _ ?k1 ?k2 ?k3 ?k4 ?k5 ?kK ?kd ?ku  ?_ ?_; (case k1 => k_asm); (case k2 => k_asm); (case k3 => k_asm); (case k4 => k_asm); (case k5 => k_asm); (case m1 => k_mem); (case m2 => k_mem); (case I1 => with_reducible assumption); (case I2 => with_reducible assumption); (case o1 => with_reducible assumption); (case o2 => with_reducible assumption); (case h1 => first | with_reducible assumption | omega); (case h2 => first | with_reducible assumption | omega); (case kK => first | exact rfl | assumption); (case kd => walk_at "my room"); (case ku => walk_at "my room"); (focus (unfold Bck; intro v9 n9 h' tk' F' N' r9; obtain ⟨D9, o9, e9, e8, l9, hD9⟩ := r9; subst e9; subst e8; (try k_lt l9); (try dsimp only); (try k_fold))); rotate_left; (focus (unfold Rai; intro n9 r9; (exact r9.2.elim))))))
local macro_rules | `(tactic| walk_at "call ref") => `(tactic| (k_here; (with_reducible show wpAny _ _ (call (Value.ref 168) [Value.ref _] _) _ _ _); k_dflt (refine' c_number _ _ _ _ _ _ _ _ _ ?m1 ?hI _ _ _ _ _ _ _ _ _ _ _ _ _ _ _ _ ?k1 ?k2 ?k3 ?k4 ?k5 ?kK ?kd ?ku  ?_ ?_; (case k1 => k_asm); (case k2 => k_asm); (case k3 => k_asm); (case k4 => k_asm); (case k5 => k_asm); (case m1 => k_mem); (case hI => with_reducible assumption); (case kK => first | exact rfl | assumption); (case kd => walk_at "my room"); (case ku => walk_at "my room"); (focus (unfold Bck; intro v9 n9 h' tk' F' N' r9; obtain ⟨e9, t9, e8⟩ := r9; subst e9; subst e8; (try dsimp only); (try k_fold))); rotate_left; (focus (unfold Rai; intro n9 r9; (exact r9.2.elim))))))
local macro_rules | `(tactic| walk_at "call ref") => `(tactic| (k_here; (with_reducible show wpAny _ _ (call (Value.ref 175) [Value.ref _] _) _ _ _); k_dflt (refine' c_bare _ _ _ _ _ _ _ _ _ ?m1 ?hI ?h1 _ _ _ _ _ _ _ _ _ _ _ _ _ _ _ _ ?k1 ?k2 ?k3 ?k4 ?k5 ?kK ?kd ?ku  ?_ ?_; (case k1 => k_asm); (case k2 => k_asm); (case k3 => k_asm); (case k4 => k_asm); (case k5 => k_asm); (case m1 => k_mem); (case hI => with_reducible assumption); (case h1 => first | with_reducible assumption | omega); (case kK => first | exact rfl | assumption); (case kd => walk_at "my room"); (case ku => walk_at "my room"); (focus (unfold Bck; intro v9 n9 h' tk' F' N' r9; obtain ⟨D9, us9, e9, e8, hI9, l9⟩ := r9; subst e9; subst e8; (try k_lt l9); (try dsimp only); (try k_fold))); rotate_left; (focus (unfold Rai; intro n9 r9; (exact r9.2.elim))))))
local macro_rules | `(tactic| walk_at "call ref") => `(tactic| (k_here; (with_reducible show wpAny _ _ (call (Value.ref 194) [Value.ref _] _) _ _ _); k_dflt (refine' c_told2 _ _ _ _ _ _ _ ?h8 _ _ _ _ _ _ _ _ _ _ _ _ _ _ _ _ ?k1 ?k2 ?k3 ?k4 ?k5 ?kK ?kd ?ku  ?_ ?_; (case k1 => k_asm); (case k2 => k_asm); (case k3 => k_asm); (case k4 => k_asm); (case k5 => k_asm); (case h8 => exact ToldAs.mono (by with_reducible assumption) (by walk_at "my sub9")); (case kK => first | exact rfl | assumption); (case kd => walk_at "my room"); (case ku => walk_at "my room"); (focus (unfold Bck; intro v9 n9 h' tk' F' N' r9; obtain ⟨add9, e9, ha9, hD9⟩ := r9; subst e9; (have N2 := ins_news N' (by walk_at "my ins")); clear N'; (try dsimp only); (try k_fold))); rotate_left; (focus (unfold Rai; intro n9 r9; (exact r9.2.elim))))))
local macro_rules | `(tactic| k_all) => `(tactic| exact OwnOff.ne (Keep9.out (by with_reducible assumption)) (by k_memK))
local macro_rules | `(tactic| k_all) => `(tactic| (refine all_app ?ka9 ?kb9; (case ka9 => exact all_apart (by with_reducible assumption) (by k_mem)); (case kb9 => k_all)))
local macro_rules | `(tactic| k_ne) => `(tactic| ((try dsimp only); first | (exact Off2.n1 (by with_reducible assumption)) | (exact Off2.n2 (by with_reducible assumption)) | (exact Ne.symm (Off2.n1 (by with_reducible assumption))) | (exact Ne.symm (Off2.n2 (by with_reducible assumption))) | (with_reducible assumption) | (exact Ne.symm (by with_reducible assumption))))
local macro_rules | `(tactic| walk_at "call builtin:list.append") => `(tactic| (k_here; (with_reducible show wpAny _ _ (call (Value.builtin _) [Value.ref _, _]) _ _ _); k_dflt (refine' append_K ?k1 ?k2 ?k3 ?_ ?z; (case k1 => k_asm); (case k2 => k_asm); (case k3 => k_upd); (case z => with_reducible assumption); k_whole); intro h' F' N'; (try k_sweep)))
local macro_rules | `(tactic| walk_at "my two") => `(tactic| (refine ⟨rfl, _, _, rfl, ?_⟩; refine' close_two ?F ?N ?e4 ?e5 ?e6 ?e7 ?m1 ?m2 ?m3 ?m4 ?m5 ?J1 ?J2 ?hs ?hT0 ?hD0 ?hT ?hD ?ed ?eds ?hne ?hoff ?ha ?ma ?mb ?fD ?f1 ?f2; (case F => k_asm); (case N => k_asm); (case e4 => exact rfl); (case e5 => exact rfl); (case e6 => exact rfl); (case e7 => exact rfl); (case m3 => k_mem); (case m4 => k_mem); (case m1 => k_mem); (case m2 => k_mem); (case m5 => k_mem); (case J1 => with_reducible assumption); (case J2 => with_reducible assumption); (case hT => with_reducible assumption); (case hT0 => with_reducible assumption); (case hD0 => with_reducible assumption); (case hs => walk_at "my sub9"); (case hD => first | exact ref_dat | with_reducible assumption); (case eds => exact rfl); (case ed => first | exact dMade_n1 (by with_reducible assumption) | exact dMade_n2 (by with_reducible assumption) | exact dMade_y (by with_reducible assumption) (by with_reducible assumption) | exact dRead_y (by omega) | exact dRead_n (by omega)); (case hne => with_reducible assumption); (case hoff => exact Keep9.out (by with_reducible assumption)); (case ha => with_reducible assumption); (case ma => k_mem); (case mb => k_mem); (case fD => walk_at "my off2"); (case f1 => first | with_reducible assumption | walk_at "my off2"); (case f2 => first | with_reducible assumption | walk_at "my off2")))
local macro_rules | `(tactic| walk_at "my off2") => `(tactic| (refine ⟨neN ?_, neN ?_⟩ <;> ((try dsimp only); omega)))
local macro_rules | `(tactic| walk_at "CompEnd") => `(tactic| (refine' LCg.CompEnd.intro ?F ?N _ (fun _ h => h) ?off ?S ?_; (case N => k_asm); (case F => k_asm); (case off => exact off3_4 (by with_unfolding_all assumption) (by with_reducible assumption)); (case S => lcg_src)))
local macro_rules | `(tactic| walk_at "compareOp Eq ref ref") => `(tactic| (k_here; (with_reducible show wpAny _ _ (compareOp CmpOp.Eq (Value.ref _) (Value.ref _)) _ _ _); k_dflt (refine' eq_fin2 ?N ?a ?b ?h1 ?h2 ?h3 ?Db ?s1 ?s2 ?s3 ?sl ?k1 ?k2 ?k3 ?n ?_; (case N => k_asm); (case a => k_mem); (case b => k_mem); (case h1 => with_reducible assumption); (case h2 => with_reducible assumption); (case h3 => with_reducible assumption); (case Db => with_reducible assumption); (case s1 => walk_at "my sub9"); (case s2 => walk_at "my sub9"); (case s3 => walk_at "my sub9"); (case sl => walk_at "my sub9"); (case k1 => exact dFirst_ok (by with_reducible assumption) (by with_reducible assumption)); (case k2 => exact dMade_ok (by with_reducible assumption) (by with_reducible assumption) (by omega) (by omega)); (case k3 => exact dRead_ok (by with_reducible assumption) (by with_reducible assumption)); (case n => ke_room); k_whole)))
set_option maxHeartbeats 8000000 in
theorem law_t : PySem.Challenge.rw_fe0333_02.Holds := hd (by
  k_go0
  refine' cut3 MidA ?cF ?h1 ?h2
  case cF => k_asm
  case h1 =>
    (iterate 28 (first | (k_unfold; (try dsimp only)) | (k_end; wrow_close) | walk1 | (dsimp only; walk1) | (leave1; walk_say "STEP leave1"; (try dsimp only))))
    k_dflt (refine kba_turn (value' := PySem.Expr.Name (PySem.Str.ofString "_") ⟨0, 0, 0, 0⟩) (fun _ => rfl) ?_)
    k_dflt (refine' slice12 ?F ?N ?l ?i ?g ?_ ?s ?t ?z)
    case F => k_asm
    case N => k_asm
    case i => assumption
    case l => exact News.isList (by k_asm) (by k_mem)
    case g => (rw [List.length_append]; exact Nat.le_add_left_of_le (by decide))
    case t => kmk_pure
    case z => exact size12 (k := 63) (by assumption) (by omega) (by decide)
    case s => with_unfolding_all rfl
    intro D' a9 b9 t1 t2 ws9 rs9 h' F' N' l1 hI9 hlo9 hlen9
    (try k_lt l1)
    (try k_sweep)
    k_steps
    refine ⟨rfl, _, _, rfl, ?_⟩
    refine' MidA.mk ?F ?N ?e1 ?e2 ?e3 ?m1 ?m2 ?d1 ?hne ?hI ?ho ?h5 ?h10 ?hu ?hv
    case F => k_asm
    case N => k_asm
    case e1 => exact rfl
    case e2 => exact rfl
    case e3 => exact rfl
    case m1 => k_mem
    case d1 => assumption
    case m2 => k_mem
    case hne => (refine neN ?_; (try dsimp only); omega)
    case hI => assumption
    case ho => exact octs_mod
    case h5 => (simp only [List.length_map, List.length_drop, List.length_cons]; omega)
    case h10 => (simp only [List.length_map, List.length_drop, List.length_cons]; omega)
    case hu => exact fmod_le (by decide) (by decide)
    case hv => exact fmod_le (by decide) (by decide)
    all_goals exact 0
  case h2 =>
    intro hM tkM rM
    obtain ⟨mM, u, v, kind, tu, tv, tk, lo, os, ns, oc, FM, NM, dC, hne, hI9, ho9, h5, h10, hu0, hu7, hv0, hv6⟩ := rM
    have hns : ¬ ((ns.length : Int) = 0) := by omega
    refine' cut2 MidB ?cF ?h1 ?h2
    case cF => k_asm
    case h1 =>
      k_steps
      refine ⟨rfl, _, _, rfl, ?_⟩
      refine' MidB.mk ?F ?N ?e1 ?e2 ?e3 ?e4 ?e5 ?m1 ?m2 ?I1 ?I2 ?o1 ?o2 ?hu ?hv ?g1 ?g2 ?hl
      case F => k_asm
      case N => k_asm
      case e1 => exact rfl
      case e2 => exact rfl
      case e3 => exact rfl
      case e4 => exact rfl
      case e5 => exact rfl
      case m1 => k_mem
      case m2 => k_mem
      case I1 => assumption
      case I2 => assumption
      case o1 => exact octs_take _ (octs_pick ho9)
      case o2 => exact octs_drop _ (octs_pick ho9)
      case hu => (simp only [List.length_take, List.length_map, rangeKs_length]; omega)
      case hv => (simp only [List.length_drop, List.length_map, rangeKs_length]; omega)
      case g1 => assumption
      case g2 => assumption
      case hl => omega
      all_goals exact 0
    case h2 =>
      intro hM2 tkM2 rM2
      obtain ⟨mB, kind, tu, tv, tk, l1, l2, us1, us2, ns1, ns2, FB, NB, I1, I2, o1, o2, h7, h6, hl12⟩ := rM2
      clear hne; clear hI9 ho9 h5 h10 hns dC NM; clear FM; clear hu0 hu7 hv0 hv6; clear u v lo os ns oc mM
      refine' cut3 (fun w g L h => MidC w kind ns1 ns2 g L h) ?cF ?g1 ?g2
      case cF => k_asm
      case g1 =>
        by_cases hk : kind = 4 ∨ kind = 5 ∨ kind = 6 ∨ kind = 7
        · rcases hk with hk | hk | hk | hk
          · subst hk
            k_steps
            walk_at "my hand4"
          · subst hk
            k_steps
            walk_at "my hand5"
          · subst hk
            k_steps
            walk_at "my hand6"
          · subst hk
            k_steps
            walk_at "my hand7"
        · have k4 : ¬ kind = 4 := fun e => hk (.inl e)
          have k5 : ¬ kind = 5 := fun e => hk (.inr (.inl e))
          have k6 : ¬ kind = 6 := fun e => hk (.inr (.inr (.inl e)))
          have k7 : ¬ kind = 7 := fun e => hk (.inr (.inr (.inr e)))
          have k45 := any2 k4 k5
          have k67 := any2 k6 k7
          k_steps
          walk_at "my hand0"
      case g2 =>
        intro hM3 tkM3 rM3
        clear FB NB I1 I2 hl12
        clear us1 us2 l1 l2 tu tv tk mB
        obtain ⟨mC, tu, tv, tk, l1, l2, lh, us1, us2, nh, v1, v2, ex, FC, NC, I1, I2, H⟩ := rM3
        have hin1 := H.ins.1
        have hin2 := H.ins.2
        refine' cut2 (fun w g L h => MidD w ns1 ns2 [dFirst kind ns1 ns2] g L h) ?cF ?g1 ?g2
        case cF => k_asm
        case g1 =>
          by_cases hk : kind = 4 ∨ kind = 5 ∨ kind = 6 ∨ kind = 7
          · have k4 := any4y hk
            k_steps
            all_goals walk_at "my one"
          · have k4 := any4 (fun e => hk (.inl e)) (fun e => hk (.inr (.inl e))) (fun e => hk (.inr (.inr (.inl e)))) (fun e => hk (.inr (.inr (.inr e))))
            k_steps
            all_goals walk_at "my one"
        case g2 =>
          intro hM4 tkM4 rM4
          clear FC NC I1 I2 H hin1 hin2
          clear us1 us2 l1 l2 lh tu tv tk nh v1 v2 ex mC
          obtain ⟨mD, lt, ld, l1, l2, us1, us2, nt, nd, rs, qs, tl, FD, ND, I1, I2, hT, hD, hne, f1, f2, hoff⟩ := rM4
          have hszT := size_few hT.length (by simp)
          have hszD := size_few hD.length (by simp)
          have hOff := Keep9.mk (off2_own hoff)
          replace hoff := Keep9.mk hoff
          have s1 := bare_le ns1
          have s2 := bare_le ns2
          have p1 := octs_bare o1
          have p2 := octs_bare o2
          refine' cut3 (fun w g L h => MidD w (bareOf ns1) (bareOf ns2) [dFirst kind ns1 ns2, dMade ns1 ns2] g L h) ?cF ?g1 ?g2
          case cF => k_asm
          case g1 =>
            k_steps
            all_goals walk_at "my two"
          case g2 =>
            intro hM5 tkM5 rM5
            clear hOff hoff hszT hszD f1 f2 hne hD hT I1 I2 ND FD
            clear lt ld l1 l2 us1 us2 nt nd rs qs tl mD
            obtain ⟨mE, lt, ld, l1, l2, us1, us2, nt, nd, rs, qs, tl, FD, ND, I1, I2, hT, hD, hne, f1, f2, hoff⟩ := rM5
            have hszT := size_few hT.length (by simp)
            have hszD := size_few hD.length (by simp)
            have hOff := Keep9.mk (off2_own hoff)
            replace hoff := Keep9.mk hoff
            refine' cut2 (fun w g L h => MidD w (bareOf ns1) (bareOf ns2) [dFirst kind ns1 ns2, dMade ns1 ns2, dRead (bareOf ns1) (bareOf ns2)] g L h) ?cF ?g1 ?g2
            case cF => k_asm
            case g1 =>
              k_steps
              all_goals walk_at "my two"
            case g2 =>
              intro hM6 tkM6 rM6
              clear hOff hoff hszT hszD f1 f2 hne hD hT I1 I2 ND FD
              clear lt ld l1 l2 us1 us2 nt nd rs qs tl mE
              obtain ⟨mF, lt, ld, l1, l2, us1, us2, nt, nd, rs, qs, tl, FD, ND, I1, I2, hT, hD, hne, f1, f2, hoff⟩ := rM6
              obtain ⟨a1, a2, a3, rfl, T1, T2, T3⟩ := told3 hT
              clear hT
              k_steps)
end
/-- the lines that were read for the part above are not those of the next one -/
theorem pause_ZLF : True ∧ True := by first | (walk1; fail) | (w_top off; exact ⟨trivial, trivial⟩)
end Mine
theorem PySem.Challenge.cw_fe0333_02_holds : PySem.Challenge.rw_fe0333_02.Holds :=
  Mine.law_t
