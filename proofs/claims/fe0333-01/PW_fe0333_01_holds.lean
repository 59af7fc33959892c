import PyProof.Rows.All
import Wide.All
import OpenK.AllK
import Wide.FinOn
import PySem.Challenge.RW_fe0333_01
open PySem PySem.W PyProof.Rows
set_option Elab.async false
set_option maxRecDepth 100000
namespace Mine
set_option maxHeartbeats 8000000 in
open_top hd for PySem.Challenge.rw_fe0333_01
section
noncomputable abbrev PR : Program := PySem.Challenge.rw_fe0333_01.row.prog
noncomputable abbrev LO : List Str := looseW hd.view_39 [Str.ofString "AddressAndLengthFormatIdentifier", Str.ofString "MemoryLocation"]

/-- the raise's way: a new ValueError flies over the caller's frame -/
abbrev RaiseTo (base h₀ : Heap) (L : Addr) (m : Str → Option Value) (env : Env) (outer : List Env) (news : List (Addr × Obj)) (s : Shared) (E : Value → Shared → Prop) : Prop :=
  ∀ (g : Heap) (e t : Addr) (vs : List Value) (h' : Heap) (tk' : Nat), Fr h₀ L g m → RaisedS base g (env :: outer) e (.type "ValueError") t vs news h' → g.UpToSlots h' → E (.ref e) { s with heap := h', toks := tk' }

def Bck (h₀ : Heap) (L : Addr) (m : Str → Option Value) (s : Shared) (Q : Value → Shared → Prop) (R : Value → List (Addr × Obj) → Prop) : Prop :=
  ∀ v news' h' tk', Fr h₀ L h' m → News h₀ L h' news' → R v news' → Q v { s with heap := h', toks := tk' }
def Rai (base h₀ : Heap) (L : Addr) (m : Str → Option Value) (env : Env) (outer : List Env) (s : Shared) (E : Value → Shared → Prop) (X : List (Addr × Obj) → Prop) : Prop :=
  ∀ nx, X nx → RaiseTo base h₀ L m env outer nx s E
theorem Bck.use {h₀ : Heap} {L : Addr} {m : Str → Option Value} {s : Shared} {Q : Value → Shared → Prop} {R : Value → List (Addr × Obj) → Prop} (H : Bck h₀ L m s Q R) {v : Value} {news' : List (Addr × Obj)} {h' : Heap} {tk' : Nat} (F : Fr h₀ L h' m) (N : News h₀ L h' news') (r : R v news') : Q v { s with heap := h', toks := tk' } := H v news' h' tk' F N r
theorem raisedS_sub {base G : Heap} {l : List Env} {e t : Addr} {cls : Value} {vs : List Value} {news news' : List (Addr × Obj)} {h : Heap} (R : RaisedS base G l e cls t vs news h) (hs : ∀ p ∈ news', p ∈ news) : RaisedS base G l e cls t vs news' h := by
  obtain ⟨⟨B, hB, hG, hl, hfl, hnew⟩, htup⟩ := R
  exact ⟨⟨B, hB, hG, fun q hq => hl q (hs q hq), hfl, hnew⟩, htup⟩
theorem Rai.use {base h₀ : Heap} {L : Addr} {m : Str → Option Value} {env : Env} {outer : List Env} {s : Shared} {E : Value → Shared → Prop} {X : List (Addr × Obj) → Prop} (H : Rai base h₀ L m env outer s E X) (nx : List (Addr × Obj)) (hx : X nx) {nx' : List (Addr × Obj)}
    {g : Heap} {e t : Addr} {vs : List Value} {h' : Heap} {tk' : Nat} (U : g.UpToSlots h') (F : Fr h₀ L g m) (R : RaisedS base g (env :: outer) e (.type "ValueError") t vs nx' h') (hs : ∀ p ∈ nx, p ∈ nx') : E (.ref e) { s with heap := h', toks := tk' } :=
  H nx hx g e t vs h' tk' F (raisedS_sub R hs) U
theorem Rai.use2 {base h₀ : Heap} {L : Addr} {m : Str → Option Value} {env : Env} {outer : List Env} {s : Shared} {E : Value → Shared → Prop} {news : List (Addr × Obj)} {P : Prop} (H : Rai base h₀ L m env outer s E (fun nx => nx = news ∧ P)) (hp : P) {nx' : List (Addr × Obj)}
    {g : Heap} {e t : Addr} {vs : List Value} {h' : Heap} {tk' : Nat} (U : g.UpToSlots h') (F : Fr h₀ L g m) (R : RaisedS base g (env :: outer) e (.type "ValueError") t vs nx' h') (hs : ∀ p ∈ news, p ∈ nx') : E (.ref e) { s with heap := h', toks := tk' } :=
  Rai.use H news ⟨rfl, hp⟩ U F R hs
theorem and_no1 {a b : Bool} (h : a = false) : (a && b) = false := by rw [h]; rfl
theorem and_no2 {a b : Bool} (h : b = false) : (a && b) = false := by rw [h, Bool.and_false]
/-- what a call of a def does, for any caller -/
abbrev Does (lv : Nat) (w : World) (mean : ExcName → Option Value) (mg mb : Str → Option Value) (f : Addr) (vs : List Value) (kw : List (Str × Value)) (news : List (Addr × Obj)) (R : Value → List (Addr × Obj) → Prop) (X : List (Addr × Obj) → Prop) : Prop :=
  ∀ (dp un : Nat) (cn : Str) (cs : Scope) (a : Addr) (ccd : Value) (cl : List (Str × Addr)) (outer : List Env) (A₀ : Around) (base h₀ : Heap) (L : Addr) (m : Str → Option Value) (s : Shared) (Q E : Value → Shared → Prop),
    Below A₀ base outer h₀ → Fr h₀ L s.heap m → (hd.heap_39 w.params).In h₀ → News h₀ L s.heap news → Top hd.view_39 LO mean mg mb h₀ → cs.kind = .function → dp + lv < recursionLimit → un + 20 * lv < cLine →
    Bck h₀ L m s Q R → Rai base h₀ L m (envX cn cs L a ccd cl) outer s E X →
    wpAny (model PR w) (ktrTop dp un (some []) cn cs L a ccd cl outer) (call (.ref f) vs kw) Q E s

structure Ground9 (w : World) (mean : ExcName → Option Value) (mg mb : Str → Option Value) (base : Heap) : Prop where
  inK : (hd.heap_39 w.params).In base
  top : Top hd.view_39 LO mean mg mb base
/-- the same, for a def that catches -/
abbrev DoesD (lv : Nat) (w : World) (mean : ExcName → Option Value) (mg mb : Str → Option Value) (f : Addr) (vs : List Value) (kw : List (Str × Value)) (news : List (Addr × Obj)) (R : Value → List (Addr × Obj) → Prop) (X : List (Addr × Obj) → Prop) : Prop :=
  ∀ (dp un : Nat) (cn : Str) (cs : Scope) (a : Addr) (ccd : Value) (cl : List (Str × Addr)) (outer : List Env) (A₀ : Around) (base h₀ : Heap) (L : Addr) (m : Str → Option Value) (s : Shared) (Q E : Value → Shared → Prop),
    Below A₀ base outer h₀ → Fr h₀ L s.heap m → (hd.heap_39 w.params).In h₀ → News h₀ L s.heap news → Top hd.view_39 LO mean mg mb h₀ → cs.kind = .function → dp + lv < recursionLimit → un + 20 * lv < cLine →
    Ground9 w mean mg mb base → KtsDicts (outer.filterMap (·.frame)) h₀ →
    Bck h₀ L m s Q R → Rai base h₀ L m (envX cn cs L a ccd cl) outer s E X →
    wpAny (model PR w) (ktrTop dp un (some []) cn cs L a ccd cl outer) (call (.ref f) vs kw) Q E s
theorem dicts_push {h₀ g : Heap} {L : Addr} {m : Str → Option Value} {env : Env} {outer : List Env} (FG : Fr h₀ L g m) (hf : env.frame = some L) (D : KtsDicts (outer.filterMap (·.frame)) h₀) : KtsDicts ((env :: outer).filterMap (·.frame)) g := fun b hb => by
  obtain ⟨e, he, hfe⟩ := List.mem_filterMap.mp hb
  rcases List.mem_cons.mp he with rfl | he
  · rw [hf] at hfe
    rw [← Option.some.inj hfe]
    obtain ⟨oL, es, ep, hLg, hLd, _⟩ := FG.ns
    exact ⟨oL, es, ep, hLg, hLd⟩
  · obtain ⟨o, es, n, ho, hd⟩ := D b (List.mem_filterMap.mpr ⟨e, he, hfe⟩)
    exact ⟨o, es, n, FG.keep _ _ ho, hd⟩

theorem guards_make (A : Around) (a : Args) : (A.under (.builtin "type.__call__" a)).guards = A.guards := by
  have h : (Code.builtin "type.__call__" a).guards = [] := by
    unfold Code.guards
    rw [show (Code.builtin "type.__call__" a).isGuard = false from (show guardIds.contains "type.__call__" = false by decide +kernel)]
    rfl
  unfold Around.under
  simp only [h, pushGuards]
theorem guards_deeper (A : Around) (env : Env) : (A.deeper env).guards = A.guards := rfl
theorem units_make (A : Around) (C : Addr) (vals : List Value) (kw : List (Str × Value)) : (A.under (.builtin "type.__call__" ⟨.ref C :: vals, kw⟩)).units = A.units + 1 := rfl
theorem depth_make (A : Around) (C : Addr) (vals : List Value) (kw : List (Str × Value)) : (A.under (.builtin "type.__call__" ⟨.ref C :: vals, kw⟩)).depth = A.depth + 1 := rfl
theorem fmod_nn (x : Int) {k : Int} (hk : 0 < k) : 0 ≤ x.fmod k := by rw [Int.fmod_eq_emod_of_nonneg _ (Int.le_of_lt hk)]; exact Int.emod_nonneg _ (by omega)
theorem fmod_le6 (x : Int) {k : Int} (hk : 0 < k) (h6 : k ≤ 1000000) : x.fmod k ≤ 1000000 := by rw [Int.fmod_eq_emod_of_nonneg _ (Int.le_of_lt hk)]; have := Int.emod_lt_of_pos x hk; omega
end
/-- the lines that were read for the part above are not those of the next one -/
theorem pause_Base1 : True ∧ True := by first | (walk1; fail) | exact ⟨trivial, trivial⟩
section
open PySem.Builtin PySem.Builtin.Str PySem.Calls
theorem fills_list : fillsNumberSlot (.type "list") "mod" = pure false := by
  have a : typeLookup (.type "list") (PySem.dunder "mod") = pure none := by rw [typeLookup_type, builtinLookup_eq_fast]; kernel_rfl
  have b : typeLookup (.type "list") (PySem.dunderR "mod") = pure none := by rw [typeLookup_type, builtinLookup_eq_fast]; kernel_rfl
  unfold fillsNumberSlot
  simp [a, b]
theorem fills_listmap {M : Model} {A : Around} {E : Value → Shared → Prop} {s : Shared} {a : Addr} {Q : Bool → Shared → Prop} (hT : s.TypeIs (.ref a) "list") (h : Q true s) : wpAny M A (fillsMappingSlot (.ref a)) Q E s := by
  unfold fillsMappingSlot
  refine wpAny_bind (wpAny_specialOf hT PySem.F.slot_list_getitem.lookup ?_)
  exact wpAny_pure h
theorem strOf_bind {prog : Program} {w : World} {A : Around} {E : Value → Shared → Prop} {s : Shared} {a : Addr} {d : PyData} {as : List Addr} {Q : Value → Shared → Prop}
    (r : Reads s.heap (.ref a) d as) (hs : d.showable = true) (hd : d.hasDict = false) (hg : A.guards = some []) (hu : A.units + (d.depth + 1) < cLine) (hsz : d.shown.length ≤ sizeLine)
    (h : ∀ h' u tk, (∀ b o, s.heap.get? b = some o → h'.get? b = some o) → Q (.str d.shown u) { s with heap := h', toks := tk }) :
    wpAny (model prog w) A (strOf (.ref a)) Q E s :=
  strOf_of_reads r hs (fun e => by rw [hd] at e; cases e) hg hu (fun _ _ e => e) h hsz

def eights : PyData := .list [.int 8, .int 16, .int 24, .int 32, .int 40, .int 48, .int 56, .int 64]
theorem eights_shown : eights.shown = Str.ofString "[8, 16, 24, 32, 40, 48, 56, 64]" := by decide +kernel

theorem mod_list1 {prog : Program} {w : World} {A : Around} {E : Value → Shared → Prop} {s : Shared} {t : Tok} {l : Addr} {o : Obj} {vs : List Value} {n : Nat} {as : List Addr} {Q : Value → Shared → Prop}
    (ho : s.heap.get? l = some o) (hc : o.cls = .type "list") (hd : o.data = .seq vs.toArray n) (r : Reads s.heap (.ref l) eights as) (hg : A.guards = some []) (hu : A.units + 20 < cLine)
    (h : ∀ t' h' k, (∀ b o, s.heap.get? b = some o → h'.get? b = some o) → Q (.str (Str.ofString "address_format must be an integer selected from : [8, 16, 24, 32, 40, 48, 56, 64] ") t') { s with heap := h', toks := k }) :
    wpAny (model prog w) A (binaryOp .Mod (.str (Str.ofString "address_format must be an integer selected from : %s ") t) (.ref l)) Q E s := by
  rw [show Str.ofString "address_format must be an integer selected from : %s " = Str.mk #[97, 100, 100, 114, 101, 115, 115, 95, 102, 111, 114, 109, 97, 116, 32, 109, 117, 115, 116, 32, 98, 101, 32, 97, 110, 32, 105, 110, 116, 101, 103, 101, 114, 32, 115, 101, 108, 101, 99, 116, 101, 100, 32, 102, 114, 111, 109, 32, 58, 32, 37, 115, 32] from by decide +kernel]
  refine KPt.bin_left (T := "str") (U := "list") (op := .Mod) (by decide) (typeIs_str s _ t) ⟨_, ho, hc⟩ PySem.F.fills_str_mod fills_list PySem.F.slot_str_mod
    (wpAny_call_entry PySem.F.slot_str_mod (typeIs_str s _ t) PySem.F.entry_str_mod ?_ (PySem.F.args_str_mod_2 _ _))
  rw [KPt.entry_is_r]
  unfold Builtin.Str.percentFormat
  refine wpAny_bind (wpAny_isInstance (T := "list") ⟨_, ho, hc⟩ PySem.F.sub_list_tuple ?_)
  refine wpAny_bind (KPt.asStr_ref ho hd ?_)
  refine wpAny_bind (fills_listmap ⟨_, ho, hc⟩ ?_)
  kpc_if
  refine wpAny_bind (wpAny_pure ?_)
  refine wpAny_bind ?_
  rw [KPc.range_list]
  refine KPc.start ?_
  intro _ _
  refine KPc.turn ?_; kpc_check; (repeat kpc_if)
  refine wpAny_pure ?_; kpt_piece
  refine KPc.turn ?_; kpc_check; (repeat kpc_if)
  refine wpAny_bind ?_; refine wpAny_holding ?_; (repeat kpc_if)
  refine wpAny_bind ?_
  kpc_if
  refine strOf_bind r (by decide +kernel) (by decide +kernel) hg (by show A.units + 1 + _ < _; rw [show eights.depth = 1 from by decide +kernel]; omega) (by rw [eights_shown]; decide +kernel) fun h' u tk hk => ?_
  rw [eights_shown]
  refine wpAny_bind (wpAny_of_eq (a := some _) rfl ?_)
  refine wpAny_pure ?_; refine wpAny_pure ?_; kpt_piece
  refine KPc.turn ?_; kpc_check; (repeat kpc_if)
  refine wpAny_pure ?_; kpt_piece
  refine KPc.turn ?_; kpc_check; (repeat kpc_if)
  refine wpAny_pure ?_; kpc_if; refine KPc.finish_ok (by kpc_g) (by decide +kernel) (by first | kpc_text | exact rfl) ?_
  intro t' k
  exact ⟨_, rfl, (fun e => nomatch e), h t' h' k hk⟩

theorem mod_list2 {prog : Program} {w : World} {A : Around} {E : Value → Shared → Prop} {s : Shared} {t : Tok} {l : Addr} {o : Obj} {vs : List Value} {n : Nat} {as : List Addr} {Q : Value → Shared → Prop}
    (ho : s.heap.get? l = some o) (hc : o.cls = .type "list") (hd : o.data = .seq vs.toArray n) (r : Reads s.heap (.ref l) eights as) (hg : A.guards = some []) (hu : A.units + 20 < cLine)
    (h : ∀ t' h' k, (∀ b o, s.heap.get? b = some o → h'.get? b = some o) → Q (.str (Str.ofString "memorysize_format must be an integer selected from : [8, 16, 24, 32, 40, 48, 56, 64]") t') { s with heap := h', toks := k }) :
    wpAny (model prog w) A (binaryOp .Mod (.str (Str.ofString "memorysize_format must be an integer selected from : %s") t) (.ref l)) Q E s := by
  rw [show Str.ofString "memorysize_format must be an integer selected from : %s" = Str.mk #[109, 101, 109, 111, 114, 121, 115, 105, 122, 101, 95, 102, 111, 114, 109, 97, 116, 32, 109, 117, 115, 116, 32, 98, 101, 32, 97, 110, 32, 105, 110, 116, 101, 103, 101, 114, 32, 115, 101, 108, 101, 99, 116, 101, 100, 32, 102, 114, 111, 109, 32, 58, 32, 37, 115] from by decide +kernel]
  refine KPt.bin_left (T := "str") (U := "list") (op := .Mod) (by decide) (typeIs_str s _ t) ⟨_, ho, hc⟩ PySem.F.fills_str_mod fills_list PySem.F.slot_str_mod
    (wpAny_call_entry PySem.F.slot_str_mod (typeIs_str s _ t) PySem.F.entry_str_mod ?_ (PySem.F.args_str_mod_2 _ _))
  rw [KPt.entry_is_r]
  unfold Builtin.Str.percentFormat
  refine wpAny_bind (wpAny_isInstance (T := "list") ⟨_, ho, hc⟩ PySem.F.sub_list_tuple ?_)
  refine wpAny_bind (KPt.asStr_ref ho hd ?_)
  refine wpAny_bind (fills_listmap ⟨_, ho, hc⟩ ?_)
  kpc_if
  refine wpAny_bind (wpAny_pure ?_)
  refine wpAny_bind ?_
  rw [KPc.range_list]
  refine KPc.start ?_
  intro _ _
  refine KPc.turn ?_; kpc_check; (repeat kpc_if)
  refine wpAny_pure ?_; kpt_piece
  refine KPc.turn ?_; kpc_check; (repeat kpc_if)
  refine wpAny_bind ?_; refine wpAny_holding ?_; (repeat kpc_if)
  refine wpAny_bind ?_
  kpc_if
  refine strOf_bind r (by decide +kernel) (by decide +kernel) hg (by show A.units + 1 + _ < _; rw [show eights.depth = 1 from by decide +kernel]; omega) (by rw [eights_shown]; decide +kernel) fun h' u tk hk => ?_
  rw [eights_shown]
  refine wpAny_bind (wpAny_of_eq (a := some _) rfl ?_)
  refine wpAny_pure ?_; refine wpAny_pure ?_; kpt_piece
  refine KPc.turn ?_; kpc_check; (repeat kpc_if)
  refine wpAny_pure ?_; kpc_if; refine KPc.finish_ok (by kpc_g) (by decide +kernel) (by first | kpc_text | exact rfl) ?_
  intro t' k
  exact ⟨_, rfl, (fun e => nomatch e), h t' h' k hk⟩
end
/-- the lines that were read for the part above are not those of the next one -/
theorem pause_Base2 : True ∧ True := by first | (walk1; fail) | exact ⟨trivial, trivial⟩
section
open PySem.Calls PySem.Spec PyProof.V
abbrev D8 : List (Int × PyData) := [(8, .int 1), (16, .int 2), (24, .int 3), (32, .int 4), (40, .int 5), (48, .int 6), (56, .int 7), (64, .int 8)]
theorem keyed57 {w : World} {h : Heap} (X : (hd.heap_39 w.params).In h) : KTD.Keyed h 57 D8 := kt_keyed_in X (by kernel_rfl)
theorem keyed58 {w : World} {h : Heap} (X : (hd.heap_39 w.params).In h) : KTD.Keyed h 58 D8 := kt_keyed_in X (by kernel_rfl)
section
variable {prog : Program} {w : World} {A : Around} {E : Value → Shared → Prop} {s : Shared} {h₀ : Heap} {L d v : Addr} {m : Str → Option Value} {news : List (Addr × Obj)}
theorem keys_get {pl : Sem Bool} {Q : Value × List Value → Shared → Prop} (K : KTD.Keyed h₀ d D8) (F : Fr h₀ L s.heap m) (h : Q (.builtin "dict.keys", [.ref d]) s) : wpAny (model prog w) A (getMethod (.ref d) (Str.ofString "keys") pl) Q E s :=
  getMethod_tab_any (knd := intKind prog w) (enc := PyData.int) rfl (K.keep F.keep prog w) h
theorem keys_call {Q : Value → Shared → Prop} (K : KTD.Keyed h₀ d D8) (F : Fr h₀ L s.heap m) (N : News h₀ L s.heap news)
    (h : ∀ (V : Addr) h', Fr h₀ L h' m → News h₀ L h' ((V, { cls := .type "dict_keys", data := .fields #[.ref d] }) :: news) → (∀ q ∈ news, q.1 < V) → Q (.ref V) { s with heap := h' }) :
    wpAny (model prog w) A (call (.builtin "dict.keys") [.ref d]) Q E s := by
  obtain ⟨lo, kvs, hD, _⟩ := K.keep F.keep prog w
  exact call_meetsIn PySem.F.slot_dict_keys hD.typeIs PySem.F.entry_dict_keys (PySem.F.args_dict_keys_1 _) (kdl_meets_keys (intKind prog w) d lo) ⟨⟨kvs, hD⟩, h _ _ (F.push _) (News.push F N _) fun q hq => Heap.lt_size (N q hq).1⟩
theorem flat_int (hp : Heap) {v : Value} {i : Int} (h : Flat v (PyData.int i)) : ∃ t, v = .int i t := by cases h hp; exact ⟨_, rfl⟩
theorem keys_list {Q : Value → Shared → Prop} (K : KTD.Keyed h₀ d D8) (hh : A.handled = none) (F : Fr h₀ L s.heap m) (N : News h₀ L s.heap news) (hv : (v, { cls := .type "dict_keys", data := .fields #[.ref d] }) ∈ news)
    (h : ∀ (B : Addr) c h' tk t1 t2 t3 t4 t5 t6 t7 t8, Fr h₀ L h' m → News h₀ L h' ((B, listOf ([.int 8 t1, .int 16 t2, .int 24 t3, .int 32 t4, .int 40 t5, .int 48 t6, .int 56 t7, .int 64 t8] : List Value).toArray c) :: news) → (∀ q ∈ news, q.1 < B) → Q (.ref B) { s with heap := h', toks := tk }) :
    wpAny (model prog w) A (call (.type "list") [.ref v]) Q E s := by
  refine kdl_list_viewD (knd := intKind prog w) (enc := PyData.int) (fun _ _ e => kdl_flat_int e) hh F N hv (K.keep F.keep prog w) (by decide) fun B c h' tk => ?_
  intro v1 f1 v2 f2 v3 f3 v4 f4 v5 f5 v6 f6 v7 f7 v8 f8
  obtain ⟨t1, rfl⟩ := flat_int h' f1
  obtain ⟨t2, rfl⟩ := flat_int h' f2
  obtain ⟨t3, rfl⟩ := flat_int h' f3
  obtain ⟨t4, rfl⟩ := flat_int h' f4
  obtain ⟨t5, rfl⟩ := flat_int h' f5
  obtain ⟨t6, rfl⟩ := flat_int h' f6
  obtain ⟨t7, rfl⟩ := flat_int h' f7
  obtain ⟨t8, rfl⟩ := flat_int h' f8
  exact h B c h' tk t1 t2 t3 t4 t5 t6 t7 t8
theorem reads_eights {h : Heap} {l : Addr} {c : Nat} {t1 t2 t3 t4 t5 t6 t7 t8 : Tok} (N : News h₀ L h news) (hl : (l, listOf ([.int 8 t1, .int 16 t2, .int 24 t3, .int 32 t4, .int 40 t5, .int 48 t6, .int 56 t7, .int 64 t8] : List Value).toArray c) ∈ news) : ∃ as, Reads h (.ref l) eights as :=
  ⟨_, reads_list_at (N _ hl).1 rfl rfl (.cons (.int _ _) (.cons (.int _ _) (.cons (.int _ _) (.cons (.int _ _) (.cons (.int _ _) (.cons (.int _ _) (.cons (.int _ _) (.cons (.int _ _) .nil))))))))⟩
theorem text1 {Q : Value → Shared → Prop} {l : Addr} {c : Nat} {t t1 t2 t3 t4 t5 t6 t7 t8 : Tok} (F : Fr h₀ L s.heap m) (N : News h₀ L s.heap news) (hl : (l, listOf ([.int 8 t1, .int 16 t2, .int 24 t3, .int 32 t4, .int 40 t5, .int 48 t6, .int 56 t7, .int 64 t8] : List Value).toArray c) ∈ news) (hg : A.guards = some []) (hu : A.units + 20 < cLine)
    (h : ∀ t' h' k, Fr h₀ L h' m → News h₀ L h' news → Q (.str (Str.ofString "address_format must be an integer selected from : [8, 16, 24, 32, 40, 48, 56, 64] ") t') { s with heap := h', toks := k }) :
    wpAny (model prog w) A (binaryOp .Mod (.str (Str.ofString "address_format must be an integer selected from : %s ") t) (.ref l)) Q E s := by
  obtain ⟨as, r⟩ := reads_eights N hl
  exact mod_list1 (N _ hl).1 rfl rfl r hg hu fun t' h' k hk => h t' h' k (F.keeps hk) fun p hp => ⟨hk _ _ (N p hp).1, (N p hp).2⟩
theorem text2 {Q : Value → Shared → Prop} {l : Addr} {c : Nat} {t t1 t2 t3 t4 t5 t6 t7 t8 : Tok} (F : Fr h₀ L s.heap m) (N : News h₀ L s.heap news) (hl : (l, listOf ([.int 8 t1, .int 16 t2, .int 24 t3, .int 32 t4, .int 40 t5, .int 48 t6, .int 56 t7, .int 64 t8] : List Value).toArray c) ∈ news) (hg : A.guards = some []) (hu : A.units + 20 < cLine)
    (h : ∀ t' h' k, Fr h₀ L h' m → News h₀ L h' news → Q (.str (Str.ofString "memorysize_format must be an integer selected from : [8, 16, 24, 32, 40, 48, 56, 64]") t') { s with heap := h', toks := k }) :
    wpAny (model prog w) A (binaryOp .Mod (.str (Str.ofString "memorysize_format must be an integer selected from : %s") t) (.ref l)) Q E s := by
  obtain ⟨as, r⟩ := reads_eights N hl
  exact mod_list2 (N _ hl).1 rfl rfl r hg hu fun t' h' k hk => h t' h' k (F.keeps hk) fun p hp => ⟨hk _ _ (N p hp).1, (N p hp).2⟩
end
end
/-- the lines that were read for the part above are not those of the next one -/
theorem pause_Base3 : True ∧ True := by first | (walk1; fail) | exact ⟨trivial, trivial⟩
section
open PySem.Calls PySem.Builtin.Struct
theorem entry_pack : entryFor table "_struct.pack" = some Builtin.«_struct.pack» := entryFor_of_tree (by kernel_rfl)
theorem kind_pack : builtinKind "_struct.pack" = none := by kernel_rfl
theorem plain_pack : plainId "_struct.pack" = true := by decide +kernel
theorem args_pack (a b : Value) : argsOk "_struct.pack" ⟨[a, b], []⟩ := by unfold argsOk; kernel_rfl
def fmtQ : Format := { bigEndian := true, native := false, codes := [⟨'q', 1, 0, 8⟩], size := 8, items := 1 }
theorem fmt_q (t : Tok) : moduleFormat (.str (Str.ofString ">q") t) = pure fmtQ := by kernel_rfl
def packB (i : Int) : Array UInt8 := intBytes true 8 i
theorem packB_eq (i : Int) : packB i = (fun n : Nat => #[(n / 256 ^ 7 % 256).toUInt8, (n / 256 ^ 6 % 256).toUInt8, (n / 256 ^ 5 % 256).toUInt8, (n / 256 ^ 4 % 256).toUInt8, (n / 256 ^ 3 % 256).toUInt8, (n / 256 ^ 2 % 256).toUInt8, (n / 256 ^ 1 % 256).toUInt8, (n / 256 ^ 0 % 256).toUInt8]) (i % 2 ^ 64).toNat := by
  unfold packB intBytes
  simp only [if_true]
  generalize hn : (i % 2 ^ (8 * 8)).toNat = n
  simp [PySem.Builtin.Memoryview.toLittleEndian, List.range, List.range.loop]
theorem place8 (a b c d e f g h : UInt8) : (#[a, b, c, d, e, f, g, h] : Array UInt8).toList.zipIdx.foldl (fun (out : Array UInt8) (p : UInt8 × Nat) => out.setIfInBounds (0 + 0 * 8 + p.2) p.1) (Array.replicate 8 0) = #[a, b, c, d, e, f, g, h] := by
  have e : (Array.replicate 8 0 : Array UInt8) = #[0, 0, 0, 0, 0, 0, 0, 0] := by rfl
  rw [e]
  simp [List.zipIdx, List.foldl]
theorem place_packB (i : Int) : (packB i).toList.zipIdx.foldl (fun (out : Array UInt8) (p : UInt8 × Nat) => out.setIfInBounds (0 + 0 * 8 + p.2) p.1) (Array.replicate 8 0) = packB i := by
  rw [packB_eq]; exact place8 ..
theorem packB_size (i : Int) : (packB i).size = 8 := by rw [packB_eq]; rfl
theorem turnG {α β : Type} {M : Model} {A : Around} {E : Value → Shared → Prop} {s : Shared} {l : List α} {x : α} {b : β} {f : α → β → Sem (ForInStep β)} {Q : β → Shared → Prop}
    (h : wpAny M A (f x b) (fun r s' => match r with | .done b' => Q b' s' | .yield b' => wpAny M A (forIn l b' f) Q E s') E s) : wpAny M A (forIn (x :: l) b f) Q E s := by
  rw [List.forIn_cons]
  refine wpAny_bind (wpAny_mono h (fun r s' hr => ?_) fun _ _ e => e)
  cases r with
  | done b' => exact wpAny_pure hr
  | yield b' => exact hr
theorem turn0 {α β : Type} {M : Model} {A : Around} {E : Value → Shared → Prop} {s : Shared} {b : β} {f : α → β → Sem (ForInStep β)} {Q : β → Shared → Prop} (h : Q b s) : wpAny M A (forIn ([] : List α) b f) Q E s := by
  rw [List.forIn_nil]; exact wpAny_pure h
theorem call_pack {prog : Program} {w : World} {A : Around} {E : Value → Shared → Prop} {s : Shared} {t u : Tok} {i : Int} {Q : Value → Shared → Prop} (h0 : 0 ≤ i) (h1 : i < 2 ^ 63)
    (h : ∀ k, Q (.bytes (packB i) k) { s with toks := s.toks + 1 }) : wpAny (model prog w) A (call (.builtin "_struct.pack") [.str (Str.ofString ">q") t, .int i u]) Q E s := by
  refine call_function_entry kind_pack plain_pack entry_pack (args_pack _ _) ?_
  unfold Builtin.«_struct.pack»
  refine wpAny_bind (wpAny_of_eq (a := ()) rfl ?_)
  show wpAny _ _ (moduleFormat _ >>= fun f => packed "_struct.pack" "pack" f [.int i u]) _ _ _
  refine wpAny_bind (wpAny_of_eq (fmt_q t) ?_)
  unfold packed
  refine wpAny_ite (KPc.ite_no (fun e => nomatch e) ?_)
  refine wpAny_ite (KPc.ite_no (by decide +kernel) ?_)
  refine wpAny_bind ?_
  unfold packEach
  rw [show fmtQ.codes = [⟨'q', 1, 0, 8⟩] from rfl]
  refine wpAny_bind (turnG ?_)
  kpc_if
  kpc_if
  refine wpAny_bind ?_
  rw [KPc.range_list]
  refine KPc.turn ?_
  refine wpAny_bind ?_
  wp_delta
  refine wpAny_bind (wpAny_of_eq (a := Except.ok i) rfl ?_)
  refine wpAny_bind (wpAny_pure ?_)
  refine wpAny_ite (KPc.ite_no ?c ?_)
  case c =>
    show ¬ ((decide (i < -2 ^ 63) || decide (i > 2 ^ 63 - 1)) = true)
    rw [decide_eq_false (by omega), decide_eq_false (by omega)]
    exact Bool.false_ne_true
  refine wpAny_pure ?_
  refine wpAny_bind (wpAny_pure ?_)
  refine wpAny_pure ?_
  refine turn0 ?_
  refine wpAny_pure ?_
  refine turn0 ?_
  refine wpAny_pure ?_
  show wpAny _ _ (mkBytes ((packB i).toList.zipIdx.foldl (fun (out : Array UInt8) (p : UInt8 × Nat) => out.setIfInBounds (0 + 0 * 8 + p.2) p.1) (Array.replicate 8 0)) >>= fun x => ret x) _ _ _
  rw [place_packB]
  refine wpAny_bind (wpAny_mkBytes ?_ (by rw [packB_size, sizeLine_eq]; decide))
  exact wpAny_pure ⟨_, rfl, h _⟩
end
/-- the lines that were read for the part above are not those of the next one -/
theorem pause_Base4 : True ∧ True := by first | (walk1; fail) | exact ⟨trivial, trivial⟩
section
open PySem.Calls PySem.Spec

section
variable {prog : Program} {w : World} {A A₀ : Around} {E : Value → Shared → Prop} {s : Shared} {K : Frag} {L : Addr} {base h₀ : Heap} {m mg mb : Str → Option Value} {news : List (Addr × Obj)} {p : Program} {loose : List Str} {mean : ExcName → Option Value}

/-- a def entered, its end left open: for a def that catches -/
theorem enter_raw {env : Env} {outer : List Env} {R : Result → Shared → Prop} {name qual : Str} {params : Arguments} {body : List Stmt} {scope : Scope} {dV kV doc pm cdv ct oc : Value} {an od : Option Addr} {osl : Array (Option Value)} {f : Addr} {args : Args} {binds : List (Str × Value)}
    (B : Below A₀ base outer h₀) (F : Fr h₀ L s.heap m) (X₀ : K.In h₀) (N : News h₀ L s.heap news) (T : Top p loose mean mg mb h₀) (hA : A.frames = some (env :: outer)) (hf : env.frame = some L) (hke : env.scope.kind = .function)
    (ho : K.lookup f = some ⟨oc, od, .func (fnOf name qual params body scope dV kV doc pm an cdv ct), osl⟩) (hcd : codeIn K cdv qual = true) (hroom : A.depth < recursionLimit)
    (hbind : BindsTo s (fnOf name qual params body scope dV kV doc pm an cdv ct) args binds) (hloc : ∀ y ∈ binds, scope.names.lookup y.1 = some .local)
    (h : ∀ g L' h₁, Fr h₀ L g m → Fr g L' h₁ (fun y => binds.reverse.lookup y) → News g L' h₁ news → Below A base (env :: outer) g → K.In g → Top p loose mean mg mb g →
      wpAny (model prog w) (A.deeper (envOf qual scope L' f cdv)) (execs body (envOf qual scope L' f cdv))
        (fun fl s' => R (.ok (.ret (match fl with | .ret v => v | _ => .none))) s')
        (fun e s' => wpAny (model prog w) (A.deeper (envOf qual scope L' f cdv)) (leaving (envOf qual scope L' f cdv) e) (fun _ s'' => R (.error e) s'') (fun e' s'' => R (.error e') s'') s')
        { s with heap := h₁, toks := s.toks + binds.length })
    (hco : scope.isCoroutine = false) (hgen : scope.isGenerator = false) (hk : scope.kind = .function)
    (hcell : ∀ x ∈ scope.names, x.2 ≠ .cell) : codeAny (model prog w) A (.call (.ref f) args) R s := by
  obtain ⟨FG, BG, st, _⟩ := groundX (R := R) B F N hA hf hke
  have X := X₀.keeps F.keep
  refine codeAny_call_def (fd := fnOf name qual params body scope dV kV doc pm an cdv ct) (body := body) (binds := binds) hroom (X _ _ ho) rfl (T.nolimit.keeps F.keep) (codeRec_of X hcd) rfl hbind hcell hloc (fun h₁ hns hk₁ => ?_) hco hgen hk
  exact h _ s.heap.objs.size h₁ FG ⟨hns, fun b o e => hk₁ b o (of_hideAll _ e), Nat.le_of_eq (hideAll_size _ _)⟩
    (fun p hp => ⟨hk₁ _ _ (N p hp).1, Nat.ne_of_lt (Heap.lt_size (N p hp).1), hideAll_none _ (List.mem_map_of_mem hp)⟩) BG (X₀.keeps st) (T.keeps st)

/-- the way out of such a def, its ground turned in the caller's frame alone -/
theorem exit_turn {g g' h : Heap} {L' : Addr} {m' : Str → Option Value} (FG : Fr h₀ L g m) (T : KtsTurn [L] g g') (F : Fr g' L' h m') (N : News g' L' h news) : Fr h₀ L h m ∧ News h₀ L h news := by
  have hL : h₀.get? L = none := kts_self FG
  have keep : ∀ b o, h₀.get? b = some o → h.get? b = some o := fun b o e => F.keep b o (T.other b o (FG.keep b o e) fun q => by
    rw [List.mem_singleton.mp q, hL] at e; cases e)
  obtain ⟨oL, es, ep, hLg, hLd, hLk, hLf⟩ := FG.ns
  obtain ⟨sl, hs⟩ := T.frame L oL hLg (List.mem_singleton.mpr rfl)
  refine ⟨⟨⟨_, es, ep, F.keep _ _ hs, hLd, hLk, hLf⟩, keep, FG.above⟩, fun q hq => ⟨(N q hq).1, fun z => ?_, ?_⟩⟩
  · have := (N q hq).2.2
    rw [z, hs] at this; cases this
  · cases z : h₀.get? q.1 with
    | none => rfl
    | some o =>
      have z' := T.other _ _ (FG.keep _ _ z) fun q' => by
        rw [List.mem_singleton.mp q', hL] at z; cases z
      rw [(N q hq).2.2] at z'; cases z'
theorem dicts_one {g : Heap} (FG : Fr h₀ L g m) : KtsDicts [L] g := fun b hb => by
  rw [List.mem_singleton.mp hb]
  obtain ⟨oL, es, ep, hLg, hLd, _⟩ := FG.ns
  exact ⟨oL, es, ep, hLg, hLd⟩
end

/-- an exception that is held, as the ledger bears it: itself, its traceback, its arguments -/
structure Held (e T t : Addr) (oe oT ot : Obj) (cls : Value) (vs : List Value) : Prop where
  cls : oe.cls = cls
  data : ∃ fs : Array Value, oe.data = .fields fs ∧ fs[0]? = some (.ref t) ∧ fs[1]? = some (.ref T)
  tb : ∃ ts : Array Value, oT.data = .fields ts ∧ ts[3]? = some .none
  args : ot.cls = .type "tuple" ∧ ∃ n, ot.data = .seq vs.toArray n
  eT : T ≠ e

section
variable {prog : Program} {w : World} {A₀ : Around} {E : Value → Shared → Prop} {s' : Shared} {base g G : Heap} {outer : List Env} {L a e t : Addr} {m : Str → Option Value} {name : Str} {scope : Scope} {cd : Value}
  {vs : List Value} {b₀ : Stmt} {suite : List Stmt} {pos : Pos} {rest : List ExceptHandler} {Q : Flow → Shared → Prop} {news : List (Addr × Obj)} {KF : Frag}
  {p : Program} {loose : List Str} {mean : ExcName → Option Value} {mg mb : Str → Option Value} {X : String}

theorem handleBy_bare {A : Around} {env : Env} {s : Shared} {e : Addr}
    (h : wpAny (model prog w) (A.mark (some (.ref e))) (setFlight (.ref e) none) (fun _ s₁ => wpAny (model prog w) (A.mark (some (.ref e))) (execs (b₀ :: suite) env) Q (notedBy (model prog w) (A.mark (some (.ref e))) env (cameBackBy (model prog w) A env E)) s₁) (notedBy (model prog w) (A.mark (some (.ref e))) env (cameBackBy (model prog w) A env E)) s) :
    wpAny (model prog w) A (handleBy (.ref e) env (.ExceptHandler none none (b₀ :: suite) pos :: rest)) Q E s := by
  rw [handleBy]
  refine wpAny_bind (wpAny_pure ?_)
  refine wpAny_ite (KPc.ite_no (by decide) ?_)
  refine wpAny_bind (wpAny_holding (wpAny_runOwn ?_ (by intro q; cases q)))
  exact codeAny_mono (codeAny_handlers_suite (R := fun r s' => match r with | .ok f => Q f s' | .error e => cameBackBy (model prog w) A env E e s') h) fun r s₁ h₁ => by
    cases r with
    | ok f => exact wpAny_pure h₁
    | error x => exact h₁

theorem caught_bare (R : RaisedS base G (envOf name scope L a cd :: outer) e (.type X) t vs news s'.heap) (F : Fr g L G m) (K : Below A₀ base outer g) (hsm : G.UpToSlots s'.heap) (XB : KF.In base) (TB : Top p loose mean mg mb base) (D : KtsDicts (outer.filterMap (·.frame)) g)
    (k : ∀ h' g' T oe oT ot, KtsTurn (outer.filterMap (·.frame)) g g' → Fr g' L h' m → News g' L h' ((e, oe) :: (T, oT) :: (t, ot) :: news) → Held e T t oe oT ot (.type X) vs → (∀ q ∈ news, q.1 ≠ e ∧ q.1 ≠ T ∧ q.1 ≠ t) → Below A₀ base outer g' → KF.In g' → Top p loose mean mg mb g' → g.UpToSlots h' →
      wpAny (model prog w) ((A₀.deeper (envOf name scope L a cd)).mark (some (.ref e))) (execs (b₀ :: suite) (envOf name scope L a cd)) Q (notedBy (model prog w) ((A₀.deeper (envOf name scope L a cd)).mark (some (.ref e))) (envOf name scope L a cd) (cameBackBy (model prog w) (A₀.deeper (envOf name scope L a cd)) (envOf name scope L a cd) E)) { s' with heap := h' }) :
    wpAny (model prog w) (A₀.deeper (envOf name scope L a cd)) (noteFrame (.ref e) (envOf name scope L a cd))
      (fun _ s₂ => wpAny (model prog w) (A₀.deeper (envOf name scope L a cd)) (setFlight (.ref e) none) (fun _ s₃ =>
        wpAny (model prog w) (A₀.deeper (envOf name scope L a cd)) (handleBy (.ref e) (envOf name scope L a cd) (.ExceptHandler none none (b₀ :: suite) pos :: rest)) Q E s₃) E s₂) E s' := by
  obtain ⟨⟨B, hB, hBG, hl, hfl, hnew⟩, htup⟩ := R
  have hL : B.get? L = none := by
    obtain ⟨_, ⟨L', _, hf, hn', _⟩, _⟩ := hfl.2.2.1
    obtain rfl : L = L' := Option.some.inj hf
    exact hn'
  refine wpAny_looks_onW (Around.frames_deeper K.stack) rfl hfl fun h₄ hheld₄ hsm₄ => ?_
  refine wpAny_landsW hheld₄ fun h₅ hheld hsm₅' => ?_
  have hsm₅ := hsm₄.trans hsm₅'
  refine handleBy_bare ?_
  refine lands_againW hheld fun h₆ hfl₆ hsm₆ => ?_
  have hsmA : G.UpToSlots h₆ := (hsm.trans hsm₅).trans hsm₆
  obtain ⟨g₆, T₆, F₆, K₆⟩ := kts_ground K F hBG hfl₆.1 hsmA
  obtain ⟨oe, fs, T, oT, ts, hoe, ⟨hoec, hoe0⟩, hoed, hoe1, hTn, hTe, hoT, hoTd, hts⟩ := hfl₆.2.2.2
  obtain ⟨ot, nt, hot, hotc, hotd⟩ := (htup.of_slots hsm₅).of_slots hsm₆
  have fld : ∀ b (o : Obj) (fz : Array Value), h₆.get? b = some o → o.data = .fields fz → B.get? b = none → g₆.get? b = none := fun b o fz hb hd hBn => T₆.none_ _ (kts_fresh F hBG hBn fun o' ho' hm => by
    obtain ⟨_, o'', ho'', hd''⟩ := K.frames.mem hm
    rw [ho'] at ho''
    cases ho''
    obtain ⟨sl, hs⟩ := hsmA _ _ (F.keep _ _ ho') hd''
    rw [hb] at hs
    cases hs
    exact hd'' _ hd)
  have ne₆ : g₆.get? e = none := fld e oe fs hoe hoed hfl₆.2.1
  have nT₆ : g₆.get? T = none := fld T oT ts hoT hoTd hTn
  have nt₆ : g₆.get? t = none := T₆.none_ _ (kts_fresh F hBG hnew fun o ho hm => by
    obtain ⟨o', es, n', ho', hd⟩ := D _ hm
    rw [ho] at ho'
    cases ho'
    obtain ⟨sl, hs⟩ := hsmA _ _ (F.keep _ _ ho) (fun vs q => by rw [hd] at q; cases q)
    rw [hot] at hs
    cases hs
    have z := hd.symm.trans hotd
    cases z)
  have Nl : News g₆ L h₆ news := fun q hq => ⟨hfl₆.1 _ _ (hl q hq).1, (fun z => by have := (hl q hq).1; rw [z, hL] at this; cases this), T₆.none_ _ (kts_none F.keep (hl q hq).2.1)⟩
  have Lne : ∀ b (o : Obj), h₆.get? b = some o → (∀ es n, o.data ≠ .dict es n) → b ≠ L := fun b o hb hd z => by
    obtain ⟨oL, es, ep, hLg, hLd, _⟩ := F₆.ns
    rw [z, hLg] at hb
    cases hb
    exact hd _ _ hLd
  have N₆ : News g₆ L h₆ ((e, oe) :: (T, oT) :: (t, ot) :: news) := fun q hq => by
    rcases List.mem_cons.mp hq with rfl | hq
    · exact ⟨hoe, Lne _ _ hoe (fun es n q => by rw [hoed] at q; cases q), ne₆⟩
    rcases List.mem_cons.mp hq with rfl | hq
    · exact ⟨hoT, Lne _ _ hoT (fun es n q => by rw [hoTd] at q; cases q), nT₆⟩
    rcases List.mem_cons.mp hq with rfl | hq
    · exact ⟨hot, Lne _ _ hot (fun es n q => by rw [hotd] at q; cases q), nt₆⟩
    · exact Nl q hq
  have off : ∀ q ∈ news, q.1 ≠ e ∧ q.1 ≠ T ∧ q.1 ≠ t := fun q hq => by
    have hb := (hl q hq).1
    refine ⟨fun z => ?_, fun z => ?_, fun z => ?_⟩
    · rw [z, hfl₆.2.1] at hb; cases hb
    · rw [z, hTn] at hb; cases hb
    · rw [z, hnew] at hb; cases hb
  exact k h₆ g₆ T oe oT ot T₆ F₆ N₆ ⟨hoec, ⟨fs, hoed, hoe0, hoe1⟩, ⟨ts, hoTd, hts⟩, ⟨hotc, nt, hotd⟩, hTe⟩ off K₆ (XB.keeps K₆.stays) (TB.keeps K₆.stays) ((Heap.UpToSlots.of_keeps F.keep).trans hsmA)

theorem setFlight_some {base : Heap} {l : List Env} {A : Around} {s : Shared} {e : Addr} {cls a0 fl : Value} {Q : Unit → Shared → Prop}
    (hkb : base.StaysIn s.heap) (hen : base.get? e = none) (hl : s.heap.FunFrames base l) (ht : s.heap.TracedAtW base e cls a0 fl)
    (h : ∀ h', Heap.HeldW base l e cls a0 L h' → (∀ b o, s.heap.get? b = some o → (∀ vs, o.data ≠ .fields vs) → h'.get? b = some o) → Q () { s with heap := h' }) :
    wpAny (model prog w) A (setFlight (.ref e) (some L)) Q E s := by
  obtain ⟨oe, vs, T, oT, ts, he, hcls, hd, h1, hnT, hTe, hT, hdT, h3⟩ := ht
  have hsz3 : 3 < ts.size := (Array.getElem?_eq_some_iff.mp h3).1
  have other : ∀ b, b ≠ T → (s.heap.update T (Obj.mapFields (·.setIfInBounds 3 ((some L : Option Addr).elim Value.none fun f => rawInt f)))).get? b = s.heap.get? b :=
    fun b hb => Heap.get?_update_other _ _ (Ne.symm hb)
  have noRecord : ∀ b o, s.heap.get? b = some o → (∀ vs, o.data ≠ .fields vs) → b ≠ T := fun b o hb hnf q => by
    rw [q, hT] at hb; injection hb with hb; subst hb; exact hnf ts hdT
  unfold setFlight
  refine wpAny_bind (wpAny_field he hd h1 ?_)
  rw [if_pos (show (Value.ref T != Value.none) = true from by simp)]
  refine wpAny_setField hT hdT hsz3 (h _ ⟨fun b o hbo => (other b fun q => by rw [q, hnT] at hbo; cases hbo).trans (hkb b o hbo), hen,
    hl.of_keeps fun b o hb hnf => ⟨o, (other b (noRecord b o hb hnf)).trans hb, rfl⟩, ?_⟩ fun b o hb hnf => (other b (noRecord b o hb hnf)).trans hb)
  exact ⟨oe, vs, T, _, _, (other e (Ne.symm hTe)).trans he, hcls, hd, h1, hnT, hTe, Heap.get?_update_self _ hT (Obj.isFreed_of_fields (Obj.data_mapFields hdT _)), Obj.data_mapFields hdT _, by simp [hsz3, rawInt]⟩

theorem frames_over {B base h : Heap} : ∀ {l : List Env}, h.FunFrames base l → (∀ b ∈ l.filterMap (·.frame), B.get? b = none) → h.FunFrames B l
  | [], _, _ => trivial
  | env :: r, ⟨hk, ⟨L, o, hf, _, ho, hd⟩, hr⟩, hn => ⟨hk, ⟨L, o, hf, hn L (List.mem_filterMap.mpr ⟨env, .head _, hf⟩), ho, hd⟩,
      frames_over hr fun b hb => hn b (by
        obtain ⟨e, he, hf'⟩ := List.mem_filterMap.mp hb
        exact List.mem_filterMap.mpr ⟨e, .tail _ he, hf'⟩)⟩
theorem not_some {h : Heap} {b : Addr} {o : Obj} (e : h.get? b = some o) (n : h.get? b = none) : False := by rw [n] at e; cases e

theorem reraise {s : Shared} {g' : Heap} {T : Addr} {oe oT ot : Obj} {Rr : Value → Shared → Prop} {Ex : Value → Shared → Prop}
    (K : Below A₀ base outer g') (F : Fr g' L s.heap m) (N : News g' L s.heap ((e, oe) :: (T, oT) :: (t, ot) :: news)) (H : Held e T t oe oT ot (.type X) vs) (off : ∀ q ∈ news, q.1 ≠ e ∧ q.1 ≠ T ∧ q.1 ≠ t)
    (T₀ : KtsTurn (outer.filterMap (·.frame)) g g')
    (hE : ∀ h', RaisedS base g outer e (.type X) t vs news h' → g.UpToSlots h' → Rr (.ref e) { s with heap := h' })
    (hk : scope.kind = .function := by rfl) :
    wpAny (model prog w) ((A₀.deeper (envOf name scope L a cd)).mark (some (.ref e))) (exec (.Raise none none pos) (envOf name scope L a cd)) Q
      (notedBy (model prog w) ((A₀.deeper (envOf name scope L a cd)).mark (some (.ref e))) (envOf name scope L a cd) (cameBackBy (model prog w) (A₀.deeper (envOf name scope L a cd)) (envOf name scope L a cd)
        (fun x s' => wpAny (model prog w) (A₀.deeper (envOf name scope L a cd)) (leaving (envOf name scope L a cd) x) (fun _ s'' => Rr x s'') Ex s'))) s := by
  obtain ⟨hcls, ⟨fs, hfs, hf0, hf1⟩, ⟨ts, hts, ht3⟩, ⟨hotc, nt, hotd⟩, hTe⟩ := H
  have Ne := N _ (.head _)
  have NT := N _ (.tail _ (.head _))
  have Nt := N _ (.tail _ (.tail _ (.head _)))
  have Nn : ∀ q ∈ news, s.heap.get? q.1 = some q.2 ∧ q.1 ≠ L ∧ g'.get? q.1 = none := fun q hq => N q (.tail _ (.tail _ (.tail _ hq)))
  have Lnone : g'.get? L = none := kts_self F
  let B := hideAll s.heap (L :: e :: T :: t :: outer.filterMap (·.frame))
  have inB : ∀ b o, s.heap.get? b = some o → b ≠ L → b ≠ e → b ≠ T → b ≠ t → b ∉ outer.filterMap (·.frame) → B.get? b = some o := fun b o hb n1 n2 n3 n4 n5 => hideAll_get _ hb fun hm => by
    rcases List.mem_cons.mp hm with z | hm
    · exact n1 z
    rcases List.mem_cons.mp hm with z | hm
    · exact n2 z
    rcases List.mem_cons.mp hm with z | hm
    · exact n3 z
    rcases List.mem_cons.mp hm with z | hm
    · exact n4 z
    · exact n5 hm
  have gB : ∀ b o, g'.get? b = some o → b ∉ outer.filterMap (·.frame) → B.get? b = some o := fun b o hb nf => inB b o (F.keep b o hb)
    (fun z => by rw [z] at hb; exact not_some hb Lnone) (fun z => by rw [z] at hb; exact not_some hb Ne.2.2) (fun z => by rw [z] at hb; exact not_some hb NT.2.2) (fun z => by rw [z] at hb; exact not_some hb Nt.2.2) nf
  have hB : base.StaysIn B := fun b o hb => gB b o (K.stays b o hb) fun hm => not_some hb (K.frames.mem hm).1
  have hBG : ∀ b o, g.get? b = some o → b ∉ outer.filterMap (·.frame) → B.get? b = some o := fun b o hb nf => gB b o (T₀.other b o hb nf) nf
  have gnone : ∀ b, g'.get? b = none → g.get? b = none := fun b hb => by
    cases q : g.get? b with
    | none => rfl
    | some o =>
      obtain ⟨sl, hs⟩ := T₀.up q
      exact (not_some hs hb).elim
  have hl : ∀ q ∈ news, B.get? q.1 = some q.2 ∧ g.get? q.1 = none ∧ base.get? q.1 = none := fun q hq => by
    obtain ⟨n1, n2, n3⟩ := Nn q hq
    obtain ⟨o1, o2, o3⟩ := off q hq
    refine ⟨inB _ _ n1 n2 o1 o2 o3 fun hm => ?_, gnone _ n3, fresh_of_stays K.stays n3⟩
    obtain ⟨_, o, ho, _⟩ := K.frames.mem hm
    exact not_some ho n3
  have nB : ∀ b, b ∈ L :: e :: T :: t :: outer.filterMap (·.frame) → B.get? b = none := fun b hb => hideAll_none _ hb
  have FF : s.heap.FunFrames B (envOf name scope L a cd :: outer) := frames_over (K.push (name := name) (a := a) (cd := cd) F hk).frames fun b hb => nB b (by
    rcases kts_mem hb with z | z
    · rw [z]; exact .head _
    · exact .tail _ (.tail _ (.tail _ (.tail _ z))))
  have stB : B.StaysIn s.heap := fun b o hb => of_hideAll _ hb
  have eB : B.get? e = none := nB e (.tail _ (.head _))
  have TB : B.get? T = none := nB T (.tail _ (.tail _ (.head _)))
  have tB : B.get? t = none := nB t (.tail _ (.tail _ (.tail _ (.head _))))
  have TR : s.heap.TracedAtW B e (.type X) (.ref t) .none := ⟨oe, fs, T, oT, ts, Ne.1, ⟨hcls, hf0⟩, hfs, hf1, TB, hTe, NT.1, hts, ht3⟩
  have gU : g.UpToSlots s.heap := fun b o hb _ => by
    obtain ⟨sl, hs⟩ := T₀.up hb
    exact ⟨sl, F.keep _ _ hs⟩
  rw [arm_exec_Raise]
  refine wpAny_bind (wpAny_standAt ?_)
  show wpAny _ _ (raiseStmt (envOf name scope L a cd) none none) _ _ _
  unfold raiseStmt
  refine wpAny_bind (wpAny_handled ?_)
  rw [show ((A₀.deeper (envOf name scope L a cd)).mark (some (.ref e))).handled = some (.ref e) from rfl]
  refine wpAny_bind (wpAny_rule ?_)
  refine wpAny_bind (wpAny_field Ne.1 hfs hf1 ?_)
  refine wpAny_ite (KPc.ite_no (by simp) ?_)
  refine wpAny_bind (setFlight_some stB eB FF TR fun h₁ H₁ U₁ => ?_)
  refine wpAny_throw ?_
  show wpAny _ _ (noteFrame _ _) _ _ _
  refine wpAny_noteFrame_againW rfl H₁.2.2.2 ?_
  show wpAny _ _ (do
    if (← field (.ref e) 1) == .none then unsupported "frame.own-activation:exception-without-traceback"
    setFlight (.ref e) (envOf name scope L a cd).frame) _ _ _
  obtain ⟨oe₁, fs₁, T₁, oT₁, ts₁, he₁, hc₁, hd₁, hf₁, r₁⟩ := H₁.2.2.2
  refine wpAny_bind (wpAny_field he₁ hd₁ hf₁ ?_)
  refine wpAny_ite (KPc.ite_no (by simp) ?_)
  refine setFlight_some H₁.1 H₁.2.1 H₁.2.2.1 ⟨oe₁, fs₁, T₁, oT₁, ts₁, he₁, hc₁, hd₁, hf₁, r₁⟩ fun h₂ H₂ U₂ => ?_
  unfold leaving
  refine wpAny_bind (wpAny_noteFrame_againW rfl H₂.2.2.2 ?_)
  refine wpAny_landsW H₂ fun h₃ hfl U₃ => ?_
  obtain ⟨k1, k2, ⟨_, _, k3⟩, k4⟩ := hfl
  have up12 : s.heap.UpToSlots h₁ := fun b o hb hn => ⟨o.slots, U₁ b o hb hn⟩
  have up23 : h₁.UpToSlots h₂ := fun b o hb hn => ⟨o.slots, U₂ b o hb hn⟩
  have U : s.heap.UpToSlots h₃ := (up12.trans up23).trans U₃
  refine hE h₃ ⟨⟨B, hB, hBG, hl, ⟨k1, k2, k3, k4⟩, tB⟩, ?_⟩ (gU.trans U)
  exact Heap.TupAt.of_slots (h := s.heap) ⟨ot, nt, Nt.1, hotc, hotd⟩ U
end
end
/-- the lines that were read for the part above are not those of the next one -/
theorem pause_Base5 : True ∧ True := by first | (walk1; fail) | exact ⟨trivial, trivial⟩
section
open PySem.Calls PySem.Spec
theorem Fr.asMap {h₀ h : Heap} {L : Addr} {m m' : Str → Option Value} (F : Fr h₀ L h m) (e : ∀ y, m' y = m y) : Fr h₀ L h m' := by
  rw [show m' = m from funext e]; exact F
theorem whlIf_yes {T F : Prop} (h : WhlIf true T F) : T := by
  unfold WhlIf at h
  rw [if_pos rfl] at h
  exact h
/-- a while by an invariant and a measure -/
theorem whl_ind {σ : Type} {prog : Program} {w : World} {A : Around} {E : Value → Shared → Prop} {env : Env} {test : PySem.Expr} {body orelse : List Stmt} {Q : Flow → Shared → Prop} (J : σ → Shared → Prop) (μ : σ → Nat) (hE : PassesOwn (model prog w) A env E)
    (turn : ∀ c s, J c s → wpAny (model prog w) A (isTrue test env (eval test env)) (fun b s₂ => WhlIf b (wpAny (model prog w) A (execs body env) (fun f s' => match f with | .next => ∃ c', J c' s' ∧ μ c' < μ c | .cont => ∃ c', J c' s' ∧ μ c' < μ c | .brk => Q .next s' | .ret v => Q (.ret v) s') E s₂) (wpAny (model prog w) A (execs orelse env) Q E s₂)) E s) :
    ∀ (n : Nat) c s, μ c ≤ n → J c s → WhlRest prog w A E env test body orelse Q 0 s := by
  intro n
  induction n with
  | zero =>
    intro c s hm hj
    refine (whl_turn (k := 0) hE (wpAny_mono (turn c s hj) (fun b s₂ h₂ => ?_) fun _ _ h => h) : WhlRest prog w A E env test body orelse Q 1 s)
    cases b with
    | false => exact h₂
    | true =>
      refine WhlIf.yes rfl (wpAny_mono (whlIf_yes h₂) (fun f s' h' => ?_) fun _ _ h => h)
      cases f with
      | next => obtain ⟨c', _, hlt⟩ := h'; omega
      | cont => obtain ⟨c', _, hlt⟩ := h'; omega
      | brk => exact h'
      | ret v => exact h'
  | succ n ih =>
    intro c s hm hj
    refine (whl_turn (k := 0) hE (wpAny_mono (turn c s hj) (fun b s₂ h₂ => ?_) fun _ _ h => h) : WhlRest prog w A E env test body orelse Q 1 s)
    cases b with
    | false => exact h₂
    | true =>
      refine WhlIf.yes rfl (wpAny_mono (whlIf_yes h₂) (fun f s' h' => ?_) fun _ _ h => h)
      cases f with
      | next => obtain ⟨c', hj', hlt⟩ := h'; exact ih c' s' (by omega) hj'
      | cont => obtain ⟨c', hj', hlt⟩ := h'; exact ih c' s' (by omega) hj'
      | brk => exact h'
      | ret v => exact h'

/-- octets that a number fills -/
def oc (n : Int) : Int := (((Builtin.Int.intBits n : Nat) : Int) + 7).fdiv 8
theorem oc_zero : oc 0 = 0 := by decide +kernel
theorem oc_nn (n : Int) : 0 ≤ oc n := by
  unfold oc
  rw [Int.fdiv_eq_ediv_of_nonneg _ (by decide)]
  omega
theorem bits_shift {n : Nat} (h : 256 ≤ n) : Builtin.Int.intBits ((n / 256 : Nat) : Int) + 8 = Builtin.Int.intBits ((n : Nat) : Int) := by
  have key : ∀ m, Builtin.Int.intBits ((n / 256 : Nat) : Int) ≤ m ↔ Builtin.Int.intBits ((n : Nat) : Int) ≤ m + 8 := fun m => by
    rw [PySem.intBits_le_iff, PySem.intBits_le_iff, Int.natAbs_natCast, Int.natAbs_natCast, Nat.pow_add]
    omega
  have h8 : ¬ Builtin.Int.intBits ((n : Nat) : Int) ≤ 7 := by
    rw [PySem.intBits_le_iff, Int.natAbs_natCast]; omega
  apply Nat.le_antisymm
  · have := (key (Builtin.Int.intBits ((n : Nat) : Int) - 8)).mpr (by omega)
    omega
  · exact (key _).mp (Nat.le_refl _)
theorem oc_step {n : Int} (h : 0 < n) : oc n = oc (n.fdiv 256) + 1 := by
  rw [Int.fdiv_eq_ediv_of_nonneg _ (by decide)]
  obtain ⟨k, rfl⟩ := Int.eq_ofNat_of_zero_le (Int.le_of_lt h)
  have e : ((k : Int) / 256) = ((k / 256 : Nat) : Int) := by omega
  rw [e]
  unfold oc
  rw [Int.fdiv_eq_ediv_of_nonneg _ (by decide), Int.fdiv_eq_ediv_of_nonneg _ (by decide)]
  by_cases hk : 256 ≤ k
  · have := bits_shift hk
    omega
  · have h0 : k / 256 = 0 := by omega
    rw [h0]
    have h1 : Builtin.Int.intBits ((0 : Nat) : Int) = 0 := by decide
    have h2 : Builtin.Int.intBits ((k : Nat) : Int) ≤ 8 := by rw [PySem.intBits_le_iff, Int.natAbs_natCast]; omega
    have h3 : ¬ Builtin.Int.intBits ((k : Nat) : Int) ≤ 0 := by rw [PySem.intBits_le_iff, Int.natAbs_natCast]; omega
    rw [h1]
    omega
end
/-- the lines that were read for the part above are not those of the next one -/
theorem pause_Base6 : True ∧ True := by first | (walk1; fail) | exact ⟨trivial, trivial⟩
section
open PySem.Calls PySem.Spec
theorem range_inv {prog : Program} {w : World} {A : Around} {E : Value → Shared → Prop} {s : Shared} {env : Env} {h₀ : Heap} {x : Str} {body : List Stmt} {Q : Flow → Shared → Prop} {r : Addr} {a₀ b₀ : Int} {t₀ u₀ v₀ : Tok} {n : Nat} {m₀ : Str → Option Value} {news : List (Addr × Obj)}
    (J : Nat → (Str → Option Value) → List (Addr × Obj) → Prop)
    (hh : A.handled = none) (hr : IsRange s.heap r a₀ b₀ 1 t₀ u₀ v₀) (hsmall : Builtin.Range.small a₀ b₀ 1 = true) (hsz : Builtin.Range.rangeSize a₀ b₀ 1 = (n : Int)) (F : Fr h₀ env.locals s.heap m₀) (N : News h₀ env.locals s.heap news) (hj : J 0 m₀ news)
    (turn : ∀ i t m₁ nx h tk own, i < n → OwnOff own (nx.map (·.1)) → J i m₁ nx → Fr h₀ env.locals h (fun y => if y = x then some (.int (a₀ + (i : Int) * 1) t) else m₁ y) → News h₀ env.locals h (nx ++ own) →
      wpAny (model prog w) A (execs body env) (InvPostG h₀ env.locals (J (i + 1)) own { s with heap := h, toks := tk } Q) E { s with heap := h, toks := tk })
    (done : ∀ m₁ nx h tk, J n m₁ nx → Fr h₀ env.locals h m₁ → News h₀ env.locals h nx → Q .next { s with heap := h, toks := tk }) :
    wpAny (model prog w) A (pyIter (.ref r)) (fun it s₂ => LoopAtV prog w A h₀ env x body Q E it s₂) E s := by
  refine wpAny_pyIter_range hr hsmall ?_
  have W : Walks prog w A s.heap.objs.size [s.heap.objs.size] [s.heap.objs.size] n (fun i v => i < n ∧ ∃ t, v = .int (a₀ + i * 1) t)
      (fun i h => IsRangeIter h s.heap.objs.size (a₀ + (i : Nat) * 1) ((n : Int) - (i : Nat)) 1) := (Walks.range hh _ a₀ 1 n).bound
  refine kdr_loop J W (fun _ h => h) (fun _ h => h) ?_ ?_ ?_ ?_ (by show IsRangeIter _ _ _ _ _; rw [hsz]; simpa using Heap.get?_push_size _ rfl) (F.push _) (fun p hp => ⟨Heap.get?_push_of_some _ (N p hp).1, (N p hp).2⟩) hj ?_ ?_
  · intro i h hi b hb
    rw [List.mem_singleton.mp hb]
    exact ⟨_, hi⟩
  · intro hm
    exact absurd F.ns.lt ((List.mem_singleton.mp hm) ▸ Nat.lt_irrefl _)
  · intro b hb
    rw [List.mem_singleton.mp hb]
    exact next_is_new F
  · intro p hp hI
    exact absurd (Heap.lt_size (N p hp).1) ((List.mem_singleton.mp hI) ▸ Nat.lt_irrefl _)
  · rintro i v m₁ nx h tk own hi ⟨_, t, rfl⟩ hoff hj' F₁ N₁
    exact turn i t m₁ nx h tk own hi hoff hj' F₁ N₁
  · exact fun m₁ nx h tk hj' F₁ N₁ => done m₁ nx h tk hj' F₁ N₁
end
/-- the lines that were read for the part above are not those of the next one -/
theorem pause_Base7 : True ∧ True := by first | (walk1; fail) | exact ⟨trivial, trivial⟩
section
open PySem.Calls PySem.Spec
theorem paired_ints {b : Array UInt8} {F : Value → Value → Prop} (hF : ∀ v y, F v y → y = v) : ∀ {vs ys : List Value}, Paired F vs ys → ys = vs
  | _, _, .nil => rfl
  | _, _, .cons h r => by rw [hF _ _ h, paired_ints (b := b) hF r]
theorem ints_of {vs : List Value} {ns : List Int} (hl : vs.length = ns.length) (h : ∀ (j : Nat) (v : Value), vs[j]? = some v → ∃ n t, ns[j]? = some n ∧ v = .int n t) : IntsAre vs ns := by
  induction vs generalizing ns with
  | nil =>
    cases ns with
    | nil => exact .nil
    | cons _ _ => cases hl
  | cons v vs ih =>
    cases ns with
    | nil => cases hl
    | cons n ns =>
      obtain ⟨n', t, e1, e2⟩ := h 0 v rfl
      have e3 : n = n' := Option.some.inj e1
      rw [e2, ← e3]
      exact .cons n t (ih (Nat.succ.inj hl) fun j v hv => h (j + 1) v hv)
theorem comp_bytes {prog : Program} {w : World} {A : Around} {E : Value → Shared → Prop} {s : Shared} {env : Env} {h₀ : Heap} {L : Addr} {m : Str → Option Value} {news : List (Addr × Obj)} {scope : Scope} {x : Str} {px : Pos} {b : Array UInt8} {t : Tok} {Q : Value → Shared → Prop}
    (hh : A.handled = none) (hb : b.size ≤ 8) (F : Fr h₀ L s.heap m) (N : News h₀ L s.heap news) (hkd : scope.kind = .function) (hx : scope.names.lookup x = some .local) (hd : (x == ("__debug__" : Str)) = false)
    (h : ∀ D ws n h' tk, Fr h₀ L h' m → News h₀ L h' ((D, listOf (List.toArray ws) n) :: news) → (∀ p ∈ news, @Ne Nat p.1 D) → IntsAre ws (KBw.bInts b) → Q (.ref D) { s with heap := h', toks := tk }) :
    wpAny (model prog w) A (pyIter (.bytes b t)) (CompPost prog w A env scope x [] (.Name x px) Q) E s := by
  refine KBw.pyIter_bytes ?_
  have up : ∀ (h' : Heap), (∀ b' o', b' ∉ [s.heap.objs.size] → (s.heap.push { cls := .type "bytes_iterator", data := .fields #[.bytes b t, .int 0 0] }).get? b' = some o' → h'.get? b' = some o') → ∀ b' o', s.heap.get? b' = some o' → h'.get? b' = some o' :=
    fun h' hk b' o' e => hk b' o' (not_iter_of_old e) (Heap.get?_push_of_some _ e)
  refine ⟨fun _ => true, fun v y => y = v, s.heap.objs.size, [s.heap.objs.size], [s.heap.objs.size], b.size, _, _, rfl, KBw.walks hh _ b t, Nat.le_trans hb (by rw [sizeLine_eq]; decide), ⟨_, Heap.get?_push_size _ rfl, rfl, rfl⟩, ?_, ⟨?_, ?_⟩, ?_⟩
  · intro b' hb'
    rw [List.mem_singleton.mp hb']
    show _ < (s.heap.push _).objs.size
    rw [Heap.size_push]
    exact Nat.lt_succ_self _
  · intro C i v s₃ m₃ E' hP hn hm _ htk
    exact wpAny_pure ⟨rfl, s₃.heap, s₃.toks, rfl, fun _ _ e => e⟩
  · intro C i v s₃ m₃ E' hP hp hn hm _ htk
    exact wpAny_Name (wpAny_loadName_local hkd hx hn hm ⟨rfl, s₃.heap, s₃.toks, rfl, fun _ _ e => e⟩) hd
  · intro D h' tk ys vs' hnew hlD hplD hlen hP hF hk
    have ek := up h' hk
    have e1 : ys.toList = vs' := by
      have := paired_ints (b := b) (fun v y e => e) hF
      rw [this]; simp
    obtain ⟨n, hD⟩ := hplD
    have nD : s.heap.get? D = none := by
      cases z : s.heap.get? D with
      | none => rfl
      | some o => rw [Heap.get?_push_of_some _ z] at hnew; cases hnew
    refine h D vs' n h' tk (F.keeps ek) ?_ (fun p hp e => ?_) (ints_of (by rw [hlen, KBw.ints_length]) fun j v hv => ?_)
    · intro p hp
      rcases List.mem_cons.mp hp with e | hp
      · rw [e]
        refine ⟨?_, ?_, ?_⟩
        · rw [← e1, Array.toArray_toList]; exact hD
        · intro z
          obtain ⟨o, es, ep, ho, _⟩ := F.ns
          have z' : D = L := z
          rw [z', ho] at nD; cases nD
        · show h₀.get? D = none
          cases z : h₀.get? D with
          | none => rfl
          | some o => rw [F.keep _ _ z] at nD; cases nD
      · exact N.grown ek p hp
    · have := (N p hp).1
      rw [show p.1 = D from e, nD] at this; cases this
    · obtain ⟨c, u, hc, hv'⟩ := hP j v hv
      exact ⟨_, u, KBw.ints_get hc, hv'⟩
end
/-- the lines that were read for the part above are not those of the next one -/
theorem pause_Base8 : True ∧ True := by first | (walk1; fail) | exact ⟨trivial, trivial⟩
section
theorem fill_C1 : (PySem.Challenge.rw_fe0333_01, hd.heap_39) = (PySem.Challenge.rw_fe0333_01, hd.heap_39) := by k_fill; rfl
/-- one of the eight formats, as the walk spells it -/
abbrev ok8 (f : Int) : Bool := (decide (f = 8) || (decide (f = 16) || (decide (f = 24) || (decide (f = 32) || (decide (f = 40) || (decide (f = 48) || (decide (f = 56) || (decide (f = 64) || false))))))))
abbrev ent (w : World) (n : String) (k : Tok) (v : Value) : DictEntry := ⟨PyData.keyHash w.params (Str.ofString n), .str (Str.ofString n) k, v⟩
abbrev dAl (w : World) (fm fa : Int) (k1 k2 tm ta : Tok) : Obj := dictOf [ent w "memorysize_format" k1 (.int fm tm), ent w "address_format" k2 (.int fa ta)] 2
theorem no8 {f : Int} (h : 64 < f) : ok8 f = false := by
  have h1 : ¬ f = 8 := by omega
  have h2 : ¬ f = 16 := by omega
  have h3 : ¬ f = 24 := by omega
  have h4 : ¬ f = 32 := by omega
  have h5 : ¬ f = 40 := by omega
  have h6 : ¬ f = 48 := by omega
  have h7 : ¬ f = 56 := by omega
  have h8 : ¬ f = 64 := by omega
  simp [ok8, h1, h2, h3, h4, h5, h6, h7, h8]
local macro_rules | `(tactic| walk_at "binaryOp Pow int int") => `(tactic| (k_here; (with_reducible refine pow_int_small ?kb1 ?kb2 ?kb3 ?_); (case kb1 => first | decide | exact fmod_nn _ (by decide)); (case kb2 => first | decide | exact fmod_le6 _ (by decide) (by decide)); (case kb3 => decide)))
local macro_rules | `(tactic| walk_at "getMethod ref") => `(tactic| (k_here; (with_reducible show wpAny _ _ (getMethod (Value.ref 57) (Str.ofString "keys") _) _ _ _); refine keys_get (keyed57 (by k_asm)) (by k_asm) ?_))
local macro_rules | `(tactic| walk_at "getMethod ref") => `(tactic| (k_here; (with_reducible show wpAny _ _ (getMethod (Value.ref 58) (Str.ofString "keys") _) _ _ _); refine keys_get (keyed58 (by k_asm)) (by k_asm) ?_))
local macro_rules | `(tactic| walk_at "call builtin:dict.keys") => `(tactic| (k_here; (with_reducible show wpAny _ _ (call (Value.builtin "dict.keys") [Value.ref _]) _ _ _); (first | (refine keys_call (keyed57 (by k_asm)) (by k_asm) (by k_asm) ?_) | (refine keys_call (keyed58 (by k_asm)) (by k_asm) (by k_asm) ?_)); intro V' h' F' N' l1; (try k_lt l1)))
local macro_rules | `(tactic| walk_at "call type:list") => `(tactic| (k_here; (with_reducible show wpAny _ _ (call (Value.type _) [Value.ref _]) _ _ _); (first | (refine keys_list (keyed57 (by k_asm)) rfl (by k_asm) (by k_asm) (by k_mem) ?_) | (refine keys_list (keyed58 (by k_asm)) rfl (by k_asm) (by k_asm) (by k_mem) ?_)); intro B' c' h' tk' t1 t2 t3 t4 t5 t6 t7 t8 F' N' l1; (try k_lt l1)))
local macro_rules | `(tactic| walk_at "binaryOp Mod str ref") => `(tactic| (k_here; (with_reducible show wpAny _ _ (binaryOp Operator.Mod (Value.str (Str.ofString "address_format must be an integer selected from : %s ") _) (Value.ref _)) _ _ _); refine' text1 ?a1 ?a2 ?a3 ?g ?u ?_; (case a1 => k_asm); (case a2 => k_asm); (case a3 => k_mem); (case g => (first | (simp only [guards_deeper, guards_make]; done) | ((try simp only [guards_deeper, guards_make]); rfl))); (case u => (have hc9 := cLine_is; (try simp only [units_make, units_deeper, units_in1]); (try dsimp only [ktrTop]); omega)); intro t' h' tk' F' N'))
local macro_rules | `(tactic| walk_at "binaryOp Mod str ref") => `(tactic| (k_here; (with_reducible show wpAny _ _ (binaryOp Operator.Mod (Value.str (Str.ofString "memorysize_format must be an integer selected from : %s") _) (Value.ref _)) _ _ _); refine' text2 ?a1 ?a2 ?a3 ?g ?u ?_; (case a1 => k_asm); (case a2 => k_asm); (case a3 => k_mem); (case g => (first | (simp only [guards_deeper, guards_make]; done) | ((try simp only [guards_deeper, guards_make]); rfl))); (case u => (have hc9 := cLine_is; (try simp only [units_make, units_deeper, units_in1]); (try dsimp only [ktrTop]); omega)); intro t' h' tk' F' N'))
local macro_rules | `(tactic| walk_at "my enter") => `(tactic| k_dflt (refine' code_def ?k1 ?k2 ?k3 ?k4 ?k5 ?kA ?kF ?kK ?k6 ?k7 ?k8 ?k9 ?kB ?_ ?c2 ?c3 ?c4 ?c5; (case kA => exact rfl); (case kF => exact rfl); (case kK => first | assumption | exact rfl); (case k1 => k_asm); (case k2 => k_asm); (case k3 => k_asm); (case k4 => k_asm); (case k5 => k_asm); (case k6 => k_is); (case k7 => k_is); (case k8 => ((try simp only [depth_make, depth_deeper, depth_in1]); (try dsimp only [ktrTop]); omega)); (case k9 => first | exact BindsTo.of_eq rfl | exact binds_K (by k_in) rfl (by k_is) rfl rfl rfl); (case c5 => decide); (case kB => exact locs rfl); (case c2 => exact rfl); (case c3 => exact rfl); (case c4 => exact rfl); k_whole; intro g' L' h' FG' F' N' B' X' T'; (try dsimp only); (try k_fold)))
local macro_rules | `(tactic| walk_at "my make") => `(tactic| (k_dflt (refine' call_cls ?k1 ?k2 ?k3 ?k4 ?k5 ?k6 ?_; (case k1 => k_asm); (case k2 => k_asm); (case k3 => k_asm); (case k4 => k_is); (case k5 => k_is); (case k6 => k_is); k_whole; intro x' d' h' F' N' l1 l2; (try k_lt l1); (try k_lt2 l2); (try k_sweep)); walk_at "my enter"))
local macro_rules | `(tactic| walk_at "my room") => `(tactic| ((try simp only [depth_make, depth_deeper, depth_in1, units_make, units_deeper, units_in1]); (try dsimp only [ktrTop]); omega))
local macro_rules | `(tactic| walk_at "leaving ref") => `(tactic| (k_here; first | (refine' leave_raiseS ?k1 ?k0 ?k2 ?k3 ?_; (case k0 => first | assumption | exact Heap.MadeExc.of (by assumption)); (case k2 => assumption); (case k1 => assumption); (case k3 => k_asm); k_whole; intro h' t' S' R' U'; (try dsimp only at S' R' U' ⊢)) | (refine' leave_onS ?k1 ?k2 ?k3 ?k4 ?_; (case k3 => assumption); (case k2 => assumption); (case k1 => assumption); (case k4 => assumption); k_whole; intro h' S' R' U'; (try dsimp only at S' R' U' ⊢))))
local macro_rules | `(tactic| walk_at "my sub") => `(tactic| ((repeat' (refine List.forall_mem_cons.mpr ⟨by k_mem, ?_⟩)); (intro p hp; repeat (first | exact hp | apply List.Mem.tail))))
local macro_rules | `(tactic| walk_at "my no") => `(tactic| first | assumption | exact and_no1 (by assumption) | exact and_no2 (by assumption) | exact and_no1 (no8 (by assumption)) | exact and_no2 (no8 (by assumption)))
local macro_rules | `(tactic| walk_at "my raise") => `(tactic| ((try dsimp only [InitBack]); refine' Rai.use2 ?H ?C ?U ?F ?R ?S; (case H => assumption); (case C => walk_at "my no"); (case U => assumption); (case F => assumption); (case R => assumption); (case S => walk_at "my sub")))
def auto (v : Int) : Int := (((Builtin.Int.intBits v : Nat) : Int) + 7).fdiv 8 * 8
set_option maxHeartbeats 8000000 in
theorem c_auto1 (w : World) (mean : ExcName → Option Value) (mg mb : Str → Option Value) (news : List (Addr × Obj)) (x : Addr) (v : Int) (t : Tok) :
    Does 5 w mean mg mb 116 [.ref x, .int v t] [] news (fun r news' => news' = news ∧ ¬ 64 < auto v ∧ ∃ t', r = .int (auto v) t') (fun nx => nx = news ∧ 64 < auto v) := by
  intro dp un cn cs a ccd cl outer A₀ base h₀ L m s Q E B F K N T hk hdp hun hret hraise
  refine wpAny_call ?_
  walk_at "my enter"
  k_steps
  · walk_at "my raise"
  · exact hret.use (by assumption) (by assumption) ⟨rfl, by assumption, _, rfl⟩
set_option maxHeartbeats 8000000 in
theorem c_auto2 (w : World) (mean : ExcName → Option Value) (mg mb : Str → Option Value) (news : List (Addr × Obj)) (x : Addr) (v : Int) (t : Tok) :
    Does 5 w mean mg mb 123 [.ref x, .int v t] [] news (fun r news' => news' = news ∧ ¬ 64 < auto v ∧ ∃ t', r = .int (auto v) t') (fun nx => nx = news ∧ 64 < auto v) := by
  intro dp un cn cs a ccd cl outer A₀ base h₀ L m s Q E B F K N T hk hdp hun hret hraise
  refine wpAny_call ?_
  walk_at "my enter"
  k_steps
  · walk_at "my raise"
  · exact hret.use (by assumption) (by assumption) ⟨rfl, by assumption, _, rfl⟩
set_option maxHeartbeats 8000000 in
theorem c_alfid (w : World) (mean : ExcName → Option Value) (mg mb : Str → Option Value) (news : List (Addr × Obj)) (fa fm : Int) (ta tm : Tok) :
    Does 10 w mean mg mb 82 [] [(Str.ofString "memorysize_format", .int fm tm), (Str.ofString "address_format", .int fa ta)] news
      (fun r news' => ∃ x d k1 k2, r = .ref x ∧ news' = (x, instObj 82 d) :: (d, dAl w fm fa k1 k2 tm ta) :: news ∧ d < x ∧ (∀ p ∈ news, p.1 < d) ∧ ok8 fa = true ∧ ok8 fm = true)
      (fun nx => nx = news ∧ (ok8 fa && ok8 fm) = false) := by
  intro dp un cn cs a ccd cl outer A₀ base h₀ L m s Q E B F K N T hk hdp hun hret hraise
  walk_at "my make"
  k_steps
  · exact hret.use (by assumption) (by assumption) ⟨_, _, _, _, rfl, rfl, by assumption, by assumption, by assumption, by assumption⟩
  · walk_at "my raise"
  · walk_at "my raise"
end
/-- the lines that were read for the part above are not those of the next one -/
theorem pause_C1 : True ∧ True := by first | (walk1; fail) | exact ⟨trivial, trivial⟩
section
theorem fill_D2 : (PySem.Challenge.rw_fe0333_01, hd.heap_39) = (PySem.Challenge.rw_fe0333_01, hd.heap_39) := by k_fill; rfl
def fmtOf (c : Option Int) (v : Int) : Int := match c with | some f => f | none => auto v
def belowN (a b : Nat) : Prop := a < b
abbrev cellV (c : Option Int) (t : Tok) : Value := match c with | some f => .int f t | none => .none
abbrev dML (w : World) (a m : Int) (fa fm : Value) (y : Addr) (k1 k2 k3 k4 k5 ta tm : Tok) : Obj :=
  dictOf [ent w "address" k1 (.int a ta), ent w "memorysize" k2 (.int m tm), ent w "address_format" k3 fa, ent w "memorysize_format" k4 fm, ent w "alfid" k5 (.ref y)] 5
theorem ok8_cases {f : Int} (h : ok8 f = true) : f = 8 ∨ f = 16 ∨ f = 24 ∨ f = 32 ∨ f = 40 ∨ f = 48 ∨ f = 56 ∨ f = 64 := by
  simpa [ok8] using h
theorem ok8_bnd {f : Int} (h : ok8 f = true) : 8 ≤ f ∧ f ≤ 64 := by
  rcases ok8_cases h with h | h | h | h | h | h | h | h <;> omega
theorem ok8_look {f : Int} (h : ok8 f = true) : PySem.Spec.lookup (PyData.int f) (D8.map fun p => (PyData.int p.1, p.2)) = some (PyData.int (f / 8)) := by
  rw [KTD.lookup_keyed]
  rcases ok8_cases h with h | h | h | h | h | h | h | h <;> subst h <;> rfl
theorem ok8_byte {fa fm : Int} (ha : ok8 fa = true) (hm : ok8 fm = true) : Builtin.bitAnd (Builtin.bitOr (fm / 8 * 2 ^ Int.toNat 4) (fa / 8)) 255 = 16 * (fm / 8) + fa / 8 := by
  rcases ok8_cases ha with h | h | h | h | h | h | h | h <;> rcases ok8_cases hm with h' | h' | h' | h' | h' | h' | h' | h' <;> subst h <;> subst h' <;> decide +kernel
theorem map_item {prog : Program} {w : World} {A : Around} {E : Value → Shared → Prop} {s : Shared} {h₀ : Heap} {L d : Addr} {m : Str → Option Value} {value slice : PySem.Expr} {f : Int} {u : Tok} {Q : Value → Shared → Prop}
    (K : KTD.Keyed h₀ d D8) (F : Fr h₀ L s.heap m) (hf : ok8 f = true) (h : ∀ t', Q (.int (f / 8) t') { s with toks := s.toks + 1 })
    (hs : subscripted slice false (.ref d) (.int f u) = operate [.ref d, .int f u] (getItem (.ref d) (.int f u)) := by with_unfolding_all rfl) (hg : ∀ r, letTemporaryGo value (.ref d) r = pure () := by intro _; with_unfolding_all rfl) :
    wpAny (model prog w) A (subscriptTail value slice (.ref d) (.int f u)) Q E s := by
  refine item_intTab (K.keep F.keep prog w) (ok8_look hf) (fun v hv => ?_) hs hg
  obtain ⟨t', rfl⟩ := flat_int s.heap hv
  exact h t'
/-- the octets of a number, the least last, as the law's own loop makes them -/
def digs : Nat → Int → List Int
  | 0, _ => []
  | k + 1, n => digs k (n / 256) ++ [n % 256]
theorem u8_toNat (x : Nat) : ((x % 256).toUInt8).toNat = x % 256 := by
  show (x % 256) % 256 = x % 256
  omega
theorem ints_packB {v : Int} (h0 : 0 ≤ v) (h1 : v < 2 ^ 63) : KBw.bInts (packB v) = digs 8 v := by
  rw [packB_eq]
  have hv : ((v % 2 ^ 64).toNat : Int) = v := by omega
  generalize (v % 2 ^ 64).toNat = n at hv
  subst hv
  simp only [KBw.bInts, digs, List.map_cons, List.map_nil, List.nil_append, List.cons_append, u8_toNat]
  simp only [List.cons.injEq, and_true]
  refine ⟨?_, ?_, ?_, ?_, ?_, ?_, ?_, ?_⟩ <;> omega
theorem cut_digs {v f : Int} (h0 : 0 ≤ v) (h1 : v < 2 ^ 63) (hf : ok8 f = true) : KBw.bInts (KBy.picked (packB v) (some (-(f / 8))) none) = digs (f / 8).toNat v := by
  rw [KBc.ints_picked (ints_packB h0 h1)]
  have hl : (digs 8 v).length = 8 := by simp [digs]
  rw [hl]
  rcases ok8_cases hf with h | h | h | h | h | h | h | h <;> subst h <;> simp [digs, clipAt] <;> rfl
end
/-- the lines that were read for the part above are not those of the next one -/
theorem pause_D2 : True ∧ True := by first | (walk1; fail) | exact ⟨trivial, trivial⟩
section
theorem fill_C2 : (PySem.Challenge.rw_fe0333_01, hd.heap_39) = (PySem.Challenge.rw_fe0333_01, hd.heap_39) := by k_fill; rfl
local macro_rules | `(tactic| walk_at "binaryOp Pow int int") => `(tactic| (k_here; (with_reducible refine pow_int_small ?kb1 ?kb2 ?kb3 ?_); (case kb1 => first | decide | exact fmod_nn _ (by decide)); (case kb2 => first | decide | exact fmod_le6 _ (by decide) (by decide)); (case kb3 => decide)))
local macro_rules | `(tactic| walk_at "getMethod ref") => `(tactic| (k_here; (with_reducible show wpAny _ _ (getMethod (Value.ref 57) (Str.ofString "keys") _) _ _ _); refine keys_get (keyed57 (by k_asm)) (by k_asm) ?_))
local macro_rules | `(tactic| walk_at "getMethod ref") => `(tactic| (k_here; (with_reducible show wpAny _ _ (getMethod (Value.ref 58) (Str.ofString "keys") _) _ _ _); refine keys_get (keyed58 (by k_asm)) (by k_asm) ?_))
local macro_rules | `(tactic| walk_at "call builtin:dict.keys") => `(tactic| (k_here; (with_reducible show wpAny _ _ (call (Value.builtin "dict.keys") [Value.ref _]) _ _ _); (first | (refine keys_call (keyed57 (by k_asm)) (by k_asm) (by k_asm) ?_) | (refine keys_call (keyed58 (by k_asm)) (by k_asm) (by k_asm) ?_)); intro V' h' F' N' l1; (try k_lt l1)))
local macro_rules | `(tactic| walk_at "call type:list") => `(tactic| (k_here; (with_reducible show wpAny _ _ (call (Value.type _) [Value.ref _]) _ _ _); (first | (refine keys_list (keyed57 (by k_asm)) rfl (by k_asm) (by k_asm) (by k_mem) ?_) | (refine keys_list (keyed58 (by k_asm)) rfl (by k_asm) (by k_asm) (by k_mem) ?_)); intro B' c' h' tk' t1 t2 t3 t4 t5 t6 t7 t8 F' N' l1; (try k_lt l1)))
local macro_rules | `(tactic| walk_at "binaryOp Mod str ref") => `(tactic| (k_here; (with_reducible show wpAny _ _ (binaryOp Operator.Mod (Value.str (Str.ofString "address_format must be an integer selected from : %s ") _) (Value.ref _)) _ _ _); refine' text1 ?a1 ?a2 ?a3 ?g ?u ?_; (case a1 => k_asm); (case a2 => k_asm); (case a3 => k_mem); (case g => (first | (simp only [guards_deeper, guards_make]; done) | ((try simp only [guards_deeper, guards_make]); rfl))); (case u => (have hc9 := cLine_is; (try simp only [units_make, units_deeper, units_in1]); (try dsimp only [ktrTop]); omega)); intro t' h' tk' F' N'))
local macro_rules | `(tactic| walk_at "binaryOp Mod str ref") => `(tactic| (k_here; (with_reducible show wpAny _ _ (binaryOp Operator.Mod (Value.str (Str.ofString "memorysize_format must be an integer selected from : %s") _) (Value.ref _)) _ _ _); refine' text2 ?a1 ?a2 ?a3 ?g ?u ?_; (case a1 => k_asm); (case a2 => k_asm); (case a3 => k_mem); (case g => (first | (simp only [guards_deeper, guards_make]; done) | ((try simp only [guards_deeper, guards_make]); rfl))); (case u => (have hc9 := cLine_is; (try simp only [units_make, units_deeper, units_in1]); (try dsimp only [ktrTop]); omega)); intro t' h' tk' F' N'))
local macro_rules | `(tactic| walk_at "my enter") => `(tactic| k_dflt (refine' code_def ?k1 ?k2 ?k3 ?k4 ?k5 ?kA ?kF ?kK ?k6 ?k7 ?k8 ?k9 ?kB ?_ ?c2 ?c3 ?c4 ?c5; (case kA => exact rfl); (case kF => exact rfl); (case kK => first | assumption | exact rfl); (case k1 => k_asm); (case k2 => k_asm); (case k3 => k_asm); (case k4 => k_asm); (case k5 => k_asm); (case k6 => k_is); (case k7 => k_is); (case k8 => ((try simp only [depth_make, depth_deeper, depth_in1]); (try dsimp only [ktrTop]); omega)); (case k9 => first | exact BindsTo.of_eq rfl | exact binds_K (by k_in) rfl (by k_is) rfl rfl rfl); (case c5 => decide); (case kB => exact locs rfl); (case c2 => exact rfl); (case c3 => exact rfl); (case c4 => exact rfl); k_whole; intro g' L' h' FG' F' N' B' X' T'; (try dsimp only); (try k_fold)))
local macro_rules | `(tactic| walk_at "my make") => `(tactic| (k_dflt (refine' call_cls ?k1 ?k2 ?k3 ?k4 ?k5 ?k6 ?_; (case k1 => k_asm); (case k2 => k_asm); (case k3 => k_asm); (case k4 => k_is); (case k5 => k_is); (case k6 => k_is); k_whole; intro x' d' h' F' N' l1 l2; (try k_lt l1); (try k_lt2 l2); (try k_sweep)); walk_at "my enter"))
local macro_rules | `(tactic| walk_at "my room") => `(tactic| ((try simp only [depth_make, depth_deeper, depth_in1, units_make, units_deeper, units_in1]); (try dsimp only [ktrTop]); omega))
local macro_rules | `(tactic| walk_at "leaving ref") => `(tactic| (k_here; first | (refine' leave_raiseS ?k1 ?k0 ?k2 ?k3 ?_; (case k0 => first | assumption | exact Heap.MadeExc.of (by assumption)); (case k2 => assumption); (case k1 => assumption); (case k3 => k_asm); k_whole; intro h' t' S' R' U'; (try dsimp only at S' R' U' ⊢)) | (refine' leave_onS ?k1 ?k2 ?k3 ?k4 ?_; (case k3 => assumption); (case k2 => assumption); (case k1 => assumption); (case k4 => assumption); k_whole; intro h' S' R' U'; (try dsimp only at S' R' U' ⊢))))
local macro_rules | `(tactic| walk_at "call ref") => `(tactic| (k_here; (with_reducible show wpAny _ _ (call (Value.ref 116) [Value.ref _, Value.int _ _] _) _ _ _); k_dflt (refine' c_auto1 _ _ _ _ _ _ _ _ _ _ _ _ _ _ _ _ _ _ _ _ _ _ _ _ ?k1 ?k2 ?k3 ?k4 ?k5 ?kK ?kd ?ku ?_ ?_; (case k1 => k_asm); (case k2 => k_asm); (case k3 => k_asm); (case k4 => k_asm); (case k5 => k_asm); (case kK => first | exact rfl | assumption); (case kd => walk_at "my room"); (case ku => walk_at "my room"); (focus (unfold Bck; intro v9 n9 h' tk' F' N' r9; obtain ⟨e9, hle, t9, e8⟩ := r9; subst e9; subst e8; (try dsimp only); (try k_fold))); rotate_left; (focus (unfold Rai; intro n9 r9; obtain ⟨e9, hle⟩ := r9; subst e9; intro g' e' t' vs' h' tk' FG' R' U'; (try dsimp only); (try k_fold))); rotate_left)))
local macro_rules | `(tactic| walk_at "call ref") => `(tactic| (k_here; (with_reducible show wpAny _ _ (call (Value.ref 123) [Value.ref _, Value.int _ _] _) _ _ _); k_dflt (refine' c_auto2 _ _ _ _ _ _ _ _ _ _ _ _ _ _ _ _ _ _ _ _ _ _ _ _ ?k1 ?k2 ?k3 ?k4 ?k5 ?kK ?kd ?ku ?_ ?_; (case k1 => k_asm); (case k2 => k_asm); (case k3 => k_asm); (case k4 => k_asm); (case k5 => k_asm); (case kK => first | exact rfl | assumption); (case kd => walk_at "my room"); (case ku => walk_at "my room"); (focus (unfold Bck; intro v9 n9 h' tk' F' N' r9; obtain ⟨e9, hle, t9, e8⟩ := r9; subst e9; subst e8; (try dsimp only); (try k_fold))); rotate_left; (focus (unfold Rai; intro n9 r9; obtain ⟨e9, hle⟩ := r9; subst e9; intro g' e' t' vs' h' tk' FG' R' U'; (try dsimp only); (try k_fold))); rotate_left)))
local macro_rules | `(tactic| walk_at "call ref") => `(tactic| (k_here; (with_reducible show wpAny _ _ (call (Value.ref 82) [] _) _ _ _); k_dflt (refine' c_alfid _ _ _ _ _ _ _ _ _ _ _ _ _ _ _ _ _ _ _ _ _ _ _ _ _ ?k1 ?k2 ?k3 ?k4 ?k5 ?kK ?kd ?ku ?_ ?_; (case k1 => k_asm); (case k2 => k_asm); (case k3 => k_asm); (case k4 => k_asm); (case k5 => k_asm); (case kK => first | exact rfl | assumption); (case kd => walk_at "my room"); (case ku => walk_at "my room"); (focus (unfold Bck; intro v9 n9 h' tk' F' N' r9; obtain ⟨x9, d9, ka9, kb9, e9, e8, l2, l1, hfa, hfm⟩ := r9; subst e9; subst e8; (try k_lt l1); (try k_lt2 l2); (try dsimp only); (try k_fold))); rotate_left; (focus (unfold Rai; intro n9 r9; obtain ⟨e9, hno⟩ := r9; subst e9; intro g' e' t' vs' h' tk' FG' R' U'; (try dsimp only); (try k_fold))); rotate_left)))
local macro_rules | `(tactic| walk_at "my sub") => `(tactic| ((repeat' (refine List.forall_mem_cons.mpr ⟨by k_mem, ?_⟩)); (intro p hp; repeat (first | exact hp | apply List.Mem.tail))))
local macro_rules | `(tactic| walk_at "my no") => `(tactic| first | assumption | exact and_no1 (by assumption) | exact and_no2 (by assumption) | exact and_no1 (no8 (by assumption)) | exact and_no2 (no8 (by assumption)))
local macro_rules | `(tactic| walk_at "my raise") => `(tactic| ((try dsimp only [InitBack]); refine' Rai.use2 ?H ?C ?U ?F ?R ?S; (case H => assumption); (case C => walk_at "my no"); (case U => assumption); (case F => assumption); (case R => assumption); (case S => walk_at "my sub")))
set_option maxHeartbeats 8000000 in
theorem c_ml (w : World) (mean : ExcName → Option Value) (mg mb : Str → Option Value) (news : List (Addr × Obj)) (v1 v2 : Int) (c0 c1 : Option Int) (ta tm t0 t1 : Tok) :
    Does 20 w mean mg mb 157 [.int v1 ta, .int v2 tm, cellV c0 t0, cellV c1 t1] [] news
      (fun r news' => ∃ x dx y dy k1 k2 k3 k4 k5 ka kb ta' tm', r = .ref x ∧
        news' = (y, instObj 82 dy) :: (dy, dAl w (fmtOf c1 v2) (fmtOf c0 v1) ka kb tm' ta') :: (x, instObj 157 dx) :: (dx, dML w v1 v2 (cellV c0 t0) (cellV c1 t1) y k1 k2 k3 k4 k5 ta tm) :: news ∧
        (∀ p ∈ news, p.1 < dx) ∧ belowN dx x ∧ belowN x dy ∧ belowN dy y ∧ ok8 (fmtOf c0 v1) = true ∧ ok8 (fmtOf c1 v2) = true)
      (fun nx => nx = news ∧ (ok8 (fmtOf c0 v1) && ok8 (fmtOf c1 v2)) = false) := by
  cases c0 <;> cases c1 <;> (
  intro dp un cn cs a ccd cl outer A₀ base h₀ L m s Q E B F K N T hk hdp hun hret hraise
  dsimp only [cellV, fmtOf] at hret hraise ⊢
  walk_at "my make"
  k_steps
  all_goals first
    | walk_at "my raise"
    | exact hret.use (by assumption) (by assumption) ⟨_, _, _, _, _, _, _, _, _, _, _, _, _, rfl, rfl, by assumption, by (unfold belowN; omega), by (unfold belowN; omega), by (unfold belowN; omega), by assumption, by assumption⟩)
end
/-- the lines that were read for the part above are not those of the next one -/
theorem pause_C2 : True ∧ True := by first | (walk1; fail) | exact ⟨trivial, trivial⟩
section
theorem fill_C2b : (PySem.Challenge.rw_fe0333_01, hd.heap_39) = (PySem.Challenge.rw_fe0333_01, hd.heap_39) := by k_fill; rfl
local macro_rules | `(tactic| walk_at "binaryOp Pow int int") => `(tactic| (k_here; (with_reducible refine pow_int_small ?kb1 ?kb2 ?kb3 ?_); (case kb1 => first | decide | exact fmod_nn _ (by decide)); (case kb2 => first | decide | exact fmod_le6 _ (by decide) (by decide)); (case kb3 => decide)))
local macro_rules | `(tactic| walk_at "getMethod ref") => `(tactic| (k_here; (with_reducible show wpAny _ _ (getMethod (Value.ref 57) (Str.ofString "keys") _) _ _ _); refine keys_get (keyed57 (by k_asm)) (by k_asm) ?_))
local macro_rules | `(tactic| walk_at "getMethod ref") => `(tactic| (k_here; (with_reducible show wpAny _ _ (getMethod (Value.ref 58) (Str.ofString "keys") _) _ _ _); refine keys_get (keyed58 (by k_asm)) (by k_asm) ?_))
local macro_rules | `(tactic| walk_at "call builtin:dict.keys") => `(tactic| (k_here; (with_reducible show wpAny _ _ (call (Value.builtin "dict.keys") [Value.ref _]) _ _ _); (first | (refine keys_call (keyed57 (by k_asm)) (by k_asm) (by k_asm) ?_) | (refine keys_call (keyed58 (by k_asm)) (by k_asm) (by k_asm) ?_)); intro V' h' F' N' l1; (try k_lt l1)))
local macro_rules | `(tactic| walk_at "call type:list") => `(tactic| (k_here; (with_reducible show wpAny _ _ (call (Value.type _) [Value.ref _]) _ _ _); (first | (refine keys_list (keyed57 (by k_asm)) rfl (by k_asm) (by k_asm) (by k_mem) ?_) | (refine keys_list (keyed58 (by k_asm)) rfl (by k_asm) (by k_asm) (by k_mem) ?_)); intro B' c' h' tk' t1 t2 t3 t4 t5 t6 t7 t8 F' N' l1; (try k_lt l1)))
local macro_rules | `(tactic| walk_at "binaryOp Mod str ref") => `(tactic| (k_here; (with_reducible show wpAny _ _ (binaryOp Operator.Mod (Value.str (Str.ofString "address_format must be an integer selected from : %s ") _) (Value.ref _)) _ _ _); refine' text1 ?a1 ?a2 ?a3 ?g ?u ?_; (case a1 => k_asm); (case a2 => k_asm); (case a3 => k_mem); (case g => (first | (simp only [guards_deeper, guards_make]; done) | ((try simp only [guards_deeper, guards_make]); rfl))); (case u => (have hc9 := cLine_is; (try simp only [units_make, units_deeper, units_in1]); (try dsimp only [ktrTop]); omega)); intro t' h' tk' F' N'))
local macro_rules | `(tactic| walk_at "binaryOp Mod str ref") => `(tactic| (k_here; (with_reducible show wpAny _ _ (binaryOp Operator.Mod (Value.str (Str.ofString "memorysize_format must be an integer selected from : %s") _) (Value.ref _)) _ _ _); refine' text2 ?a1 ?a2 ?a3 ?g ?u ?_; (case a1 => k_asm); (case a2 => k_asm); (case a3 => k_mem); (case g => (first | (simp only [guards_deeper, guards_make]; done) | ((try simp only [guards_deeper, guards_make]); rfl))); (case u => (have hc9 := cLine_is; (try simp only [units_make, units_deeper, units_in1]); (try dsimp only [ktrTop]); omega)); intro t' h' tk' F' N'))
local macro_rules | `(tactic| walk_at "my enter") => `(tactic| k_dflt (refine' code_def ?k1 ?k2 ?k3 ?k4 ?k5 ?kA ?kF ?kK ?k6 ?k7 ?k8 ?k9 ?kB ?_ ?c2 ?c3 ?c4 ?c5; (case kA => exact rfl); (case kF => exact rfl); (case kK => first | assumption | exact rfl); (case k1 => k_asm); (case k2 => k_asm); (case k3 => k_asm); (case k4 => k_asm); (case k5 => k_asm); (case k6 => k_is); (case k7 => k_is); (case k8 => ((try simp only [depth_make, depth_deeper, depth_in1]); (try dsimp only [ktrTop]); omega)); (case k9 => first | exact BindsTo.of_eq rfl | exact binds_K (by k_in) rfl (by k_is) rfl rfl rfl); (case c5 => decide); (case kB => exact locs rfl); (case c2 => exact rfl); (case c3 => exact rfl); (case c4 => exact rfl); k_whole; intro g' L' h' FG' F' N' B' X' T'; (try dsimp only); (try k_fold)))
local macro_rules | `(tactic| walk_at "my make") => `(tactic| (k_dflt (refine' call_cls ?k1 ?k2 ?k3 ?k4 ?k5 ?k6 ?_; (case k1 => k_asm); (case k2 => k_asm); (case k3 => k_asm); (case k4 => k_is); (case k5 => k_is); (case k6 => k_is); k_whole; intro x' d' h' F' N' l1 l2; (try k_lt l1); (try k_lt2 l2); (try k_sweep)); walk_at "my enter"))
local macro_rules | `(tactic| walk_at "my room") => `(tactic| first | ((try simp only [depth_make, depth_deeper, depth_in1, units_make, units_deeper, units_in1]); (try dsimp only [ktrTop]); omega) | decide | (with_unfolding_all decide))
local macro_rules | `(tactic| walk_at "leaving ref") => `(tactic| (k_here; first | (refine' leave_raiseS ?k1 ?k0 ?k2 ?k3 ?_; (case k0 => first | assumption | exact Heap.MadeExc.of (by assumption)); (case k2 => assumption); (case k1 => assumption); (case k3 => k_asm); k_whole; intro h' t' S' R' U'; (try dsimp only at S' R' U' ⊢)) | (refine' leave_onS ?k1 ?k2 ?k3 ?k4 ?_; (case k3 => assumption); (case k2 => assumption); (case k1 => assumption); (case k4 => assumption); k_whole; intro h' S' R' U'; (try dsimp only at S' R' U' ⊢))))
local macro_rules | `(tactic| walk_at "call ref") => `(tactic| (k_here; (with_reducible show wpAny _ _ (call (Value.ref 116) [Value.ref _, Value.int _ _] _) _ _ _); k_dflt (refine' c_auto1 _ _ _ _ _ _ _ _ _ _ _ _ _ _ _ _ _ _ _ _ _ _ _ _ ?k1 ?k2 ?k3 ?k4 ?k5 ?kK ?kd ?ku ?_ ?_; (case k1 => k_asm); (case k2 => k_asm); (case k3 => k_asm); (case k4 => k_asm); (case k5 => k_asm); (case kK => first | exact rfl | assumption); (case kd => walk_at "my room"); (case ku => walk_at "my room"); (focus (unfold Bck; intro v9 n9 h' tk' F' N' r9; obtain ⟨e9, hle, t9, e8⟩ := r9; subst e9; subst e8; (try dsimp only); (try k_fold))); rotate_left; (focus (unfold Rai; intro n9 r9; obtain ⟨e9, hle⟩ := r9; subst e9; intro g' e' t' vs' h' tk' FG' R' U'; (try dsimp only); (try k_fold))); rotate_left)))
local macro_rules | `(tactic| walk_at "call ref") => `(tactic| (k_here; (with_reducible show wpAny _ _ (call (Value.ref 123) [Value.ref _, Value.int _ _] _) _ _ _); k_dflt (refine' c_auto2 _ _ _ _ _ _ _ _ _ _ _ _ _ _ _ _ _ _ _ _ _ _ _ _ ?k1 ?k2 ?k3 ?k4 ?k5 ?kK ?kd ?ku ?_ ?_; (case k1 => k_asm); (case k2 => k_asm); (case k3 => k_asm); (case k4 => k_asm); (case k5 => k_asm); (case kK => first | exact rfl | assumption); (case kd => walk_at "my room"); (case ku => walk_at "my room"); (focus (unfold Bck; intro v9 n9 h' tk' F' N' r9; obtain ⟨e9, hle, t9, e8⟩ := r9; subst e9; subst e8; (try dsimp only); (try k_fold))); rotate_left; (focus (unfold Rai; intro n9 r9; obtain ⟨e9, hle⟩ := r9; subst e9; intro g' e' t' vs' h' tk' FG' R' U'; (try dsimp only); (try k_fold))); rotate_left)))
local macro_rules | `(tactic| walk_at "call ref") => `(tactic| (k_here; (with_reducible show wpAny _ _ (call (Value.ref 82) [] _) _ _ _); k_dflt (refine' c_alfid _ _ _ _ _ _ _ _ _ _ _ _ _ _ _ _ _ _ _ _ _ _ _ _ _ ?k1 ?k2 ?k3 ?k4 ?k5 ?kK ?kd ?ku ?_ ?_; (case k1 => k_asm); (case k2 => k_asm); (case k3 => k_asm); (case k4 => k_asm); (case k5 => k_asm); (case kK => first | exact rfl | assumption); (case kd => walk_at "my room"); (case ku => walk_at "my room"); (focus (unfold Bck; intro v9 n9 h' tk' F' N' r9; obtain ⟨x9, d9, ka9, kb9, e9, e8, l2, l1, hfa, hfm⟩ := r9; subst e9; subst e8; (try k_lt l1); (try k_lt2 l2); (try dsimp only); (try k_fold))); rotate_left; (focus (unfold Rai; intro n9 r9; obtain ⟨e9, hno⟩ := r9; subst e9; intro g' e' t' vs' h' tk' FG' R' U'; (try dsimp only); (try k_fold))); rotate_left)))
local macro_rules | `(tactic| walk_at "my sub") => `(tactic| ((repeat' (refine List.forall_mem_cons.mpr ⟨by k_mem, ?_⟩)); (intro p hp; repeat (first | exact hp | apply List.Mem.tail))))
local macro_rules | `(tactic| walk_at "my no") => `(tactic| first | assumption | exact and_no1 (by assumption) | exact and_no2 (by assumption) | exact and_no1 (no8 (by assumption)) | exact and_no2 (no8 (by assumption)))
local macro_rules | `(tactic| walk_at "my raise") => `(tactic| ((try dsimp only [InitBack]); refine' Rai.use2 ?H ?C ?U ?F ?R ?S; (case H => assumption); (case C => walk_at "my no"); (case U => assumption); (case F => assumption); (case R => assumption); (case S => walk_at "my sub")))
set_option maxHeartbeats 8000000 in
theorem c_ml2 (w : World) (mean : ExcName → Option Value) (mg mb : Str → Option Value) (news : List (Addr × Obj)) (v1 v2 : Int) (ta tm : Tok) :
    Does 20 w mean mg mb 157 [.int v1 ta, .int v2 tm] [] news
      (fun r news' => ∃ x dx y dy k1 k2 k3 k4 k5 ka kb ta' tm', r = .ref x ∧
        news' = (y, instObj 82 dy) :: (dy, dAl w (fmtOf none v2) (fmtOf none v1) ka kb tm' ta') :: (x, instObj 157 dx) :: (dx, dML w v1 v2 (cellV none 0) (cellV none 0) y k1 k2 k3 k4 k5 ta tm) :: news ∧
        (∀ p ∈ news, p.1 < dx) ∧ belowN dx x ∧ belowN x dy ∧ belowN dy y ∧ ok8 (fmtOf none v1) = true ∧ ok8 (fmtOf none v2) = true)
      (fun nx => nx = news ∧ (ok8 (fmtOf none v1) && ok8 (fmtOf none v2)) = false) := by
  intro dp un cn cs a ccd cl outer A₀ base h₀ L m s Q E B F K N T hk hdp hun hret hraise
  dsimp only [cellV, fmtOf] at hret hraise ⊢
  walk_at "my make"
  k_steps
  all_goals first
    | walk_at "my raise"
    | exact hret.use (by assumption) (by assumption) ⟨_, _, _, _, _, _, _, _, _, _, _, _, _, rfl, rfl, by assumption, by (unfold belowN; omega), by (unfold belowN; omega), by (unfold belowN; omega), by assumption, by assumption⟩
end
/-- the lines that were read for the part above are not those of the next one -/
theorem pause_C2b : True ∧ True := by first | (walk1; fail) | exact ⟨trivial, trivial⟩
section
theorem fill_C3 : (PySem.Challenge.rw_fe0333_01, hd.heap_39) = (PySem.Challenge.rw_fe0333_01, hd.heap_39) := by k_fill; rfl
local macro_rules | `(tactic| walk_at "binaryOp Pow int int") => `(tactic| (k_here; (with_reducible refine pow_int_small ?kb1 ?kb2 ?kb3 ?_); (case kb1 => first | decide | exact fmod_nn _ (by decide)); (case kb2 => first | decide | exact fmod_le6 _ (by decide) (by decide)); (case kb3 => decide)))
local macro_rules | `(tactic| walk_at "getMethod ref") => `(tactic| (k_here; (with_reducible show wpAny _ _ (getMethod (Value.ref 57) (Str.ofString "keys") _) _ _ _); refine keys_get (keyed57 (by k_asm)) (by k_asm) ?_))
local macro_rules | `(tactic| walk_at "getMethod ref") => `(tactic| (k_here; (with_reducible show wpAny _ _ (getMethod (Value.ref 58) (Str.ofString "keys") _) _ _ _); refine keys_get (keyed58 (by k_asm)) (by k_asm) ?_))
local macro_rules | `(tactic| walk_at "call builtin:dict.keys") => `(tactic| (k_here; (with_reducible show wpAny _ _ (call (Value.builtin "dict.keys") [Value.ref _]) _ _ _); (first | (refine keys_call (keyed57 (by k_asm)) (by k_asm) (by k_asm) ?_) | (refine keys_call (keyed58 (by k_asm)) (by k_asm) (by k_asm) ?_)); intro V' h' F' N' l1; (try k_lt l1)))
local macro_rules | `(tactic| walk_at "call type:list") => `(tactic| (k_here; (with_reducible show wpAny _ _ (call (Value.type _) [Value.ref _]) _ _ _); (first | (refine keys_list (keyed57 (by k_asm)) rfl (by k_asm) (by k_asm) (by k_mem) ?_) | (refine keys_list (keyed58 (by k_asm)) rfl (by k_asm) (by k_asm) (by k_mem) ?_)); intro B' c' h' tk' t1 t2 t3 t4 t5 t6 t7 t8 F' N' l1; (try k_lt l1)))
local macro_rules | `(tactic| walk_at "binaryOp Mod str ref") => `(tactic| (k_here; (with_reducible show wpAny _ _ (binaryOp Operator.Mod (Value.str (Str.ofString "address_format must be an integer selected from : %s ") _) (Value.ref _)) _ _ _); refine' text1 ?a1 ?a2 ?a3 ?g ?u ?_; (case a1 => k_asm); (case a2 => k_asm); (case a3 => k_mem); (case g => (first | (simp only [guards_deeper, guards_make]; done) | ((try simp only [guards_deeper, guards_make]); rfl))); (case u => (have hc9 := cLine_is; (try simp only [units_make, units_deeper, units_in1]); (try dsimp only [ktrTop]); omega)); intro t' h' tk' F' N'))
local macro_rules | `(tactic| walk_at "binaryOp Mod str ref") => `(tactic| (k_here; (with_reducible show wpAny _ _ (binaryOp Operator.Mod (Value.str (Str.ofString "memorysize_format must be an integer selected from : %s") _) (Value.ref _)) _ _ _); refine' text2 ?a1 ?a2 ?a3 ?g ?u ?_; (case a1 => k_asm); (case a2 => k_asm); (case a3 => k_mem); (case g => (first | (simp only [guards_deeper, guards_make]; done) | ((try simp only [guards_deeper, guards_make]); rfl))); (case u => (have hc9 := cLine_is; (try simp only [units_make, units_deeper, units_in1]); (try dsimp only [ktrTop]); omega)); intro t' h' tk' F' N'))
local macro_rules | `(tactic| walk_at "my enter") => `(tactic| k_dflt (refine' code_def ?k1 ?k2 ?k3 ?k4 ?k5 ?kA ?kF ?kK ?k6 ?k7 ?k8 ?k9 ?kB ?_ ?c2 ?c3 ?c4 ?c5; (case kA => exact rfl); (case kF => exact rfl); (case kK => first | assumption | exact rfl); (case k1 => k_asm); (case k2 => k_asm); (case k3 => k_asm); (case k4 => k_asm); (case k5 => k_asm); (case k6 => k_is); (case k7 => k_is); (case k8 => ((try simp only [depth_make, depth_deeper, depth_in1]); (try dsimp only [ktrTop]); omega)); (case k9 => first | exact BindsTo.of_eq rfl | exact binds_K (by k_in) rfl (by k_is) rfl rfl rfl); (case c5 => decide); (case kB => exact locs rfl); (case c2 => exact rfl); (case c3 => exact rfl); (case c4 => exact rfl); k_whole; intro g' L' h' FG' F' N' B' X' T'; (try dsimp only); (try k_fold)))
local macro_rules | `(tactic| walk_at "my make") => `(tactic| (k_dflt (refine' call_cls ?k1 ?k2 ?k3 ?k4 ?k5 ?k6 ?_; (case k1 => k_asm); (case k2 => k_asm); (case k3 => k_asm); (case k4 => k_is); (case k5 => k_is); (case k6 => k_is); k_whole; intro x' d' h' F' N' l1 l2; (try k_lt l1); (try k_lt2 l2); (try k_sweep)); walk_at "my enter"))
local macro_rules | `(tactic| walk_at "my room") => `(tactic| ((try simp only [depth_make, depth_deeper, depth_in1, units_make, units_deeper, units_in1]); (try dsimp only [ktrTop]); omega))
local macro_rules | `(tactic| walk_at "leaving ref") => `(tactic| (k_here; first | (refine' leave_raiseS ?k1 ?k0 ?k2 ?k3 ?_; (case k0 => first | assumption | exact Heap.MadeExc.of (by assumption)); (case k2 => assumption); (case k1 => assumption); (case k3 => k_asm); k_whole; intro h' t' S' R' U'; (try dsimp only at S' R' U' ⊢)) | (refine' leave_onS ?k1 ?k2 ?k3 ?k4 ?_; (case k3 => assumption); (case k2 => assumption); (case k1 => assumption); (case k4 => assumption); k_whole; intro h' S' R' U'; (try dsimp only at S' R' U' ⊢))))
local macro_rules | `(tactic| walk_at "call ref") => `(tactic| (k_here; (with_reducible show wpAny _ _ (call (Value.ref 116) [Value.ref _, Value.int _ _] _) _ _ _); k_dflt (refine' c_auto1 _ _ _ _ _ _ _ _ _ _ _ _ _ _ _ _ _ _ _ _ _ _ _ _ ?k1 ?k2 ?k3 ?k4 ?k5 ?kK ?kd ?ku ?_ ?_; (case k1 => k_asm); (case k2 => k_asm); (case k3 => k_asm); (case k4 => k_asm); (case k5 => k_asm); (case kK => first | exact rfl | assumption); (case kd => walk_at "my room"); (case ku => walk_at "my room"); (focus (unfold Bck; intro v9 n9 h' tk' F' N' r9; obtain ⟨e9, hle, t9, e8⟩ := r9; subst e9; subst e8; (try dsimp only); (try k_fold))); rotate_left; (focus (unfold Rai; intro n9 r9; obtain ⟨e9, hle⟩ := r9; subst e9; intro g' e' t' vs' h' tk' FG' R' U'; (try dsimp only); (try k_fold))); rotate_left)))
local macro_rules | `(tactic| walk_at "call ref") => `(tactic| (k_here; (with_reducible show wpAny _ _ (call (Value.ref 123) [Value.ref _, Value.int _ _] _) _ _ _); k_dflt (refine' c_auto2 _ _ _ _ _ _ _ _ _ _ _ _ _ _ _ _ _ _ _ _ _ _ _ _ ?k1 ?k2 ?k3 ?k4 ?k5 ?kK ?kd ?ku ?_ ?_; (case k1 => k_asm); (case k2 => k_asm); (case k3 => k_asm); (case k4 => k_asm); (case k5 => k_asm); (case kK => first | exact rfl | assumption); (case kd => walk_at "my room"); (case ku => walk_at "my room"); (focus (unfold Bck; intro v9 n9 h' tk' F' N' r9; obtain ⟨e9, hle, t9, e8⟩ := r9; subst e9; subst e8; (try dsimp only); (try k_fold))); rotate_left; (focus (unfold Rai; intro n9 r9; obtain ⟨e9, hle⟩ := r9; subst e9; intro g' e' t' vs' h' tk' FG' R' U'; (try dsimp only); (try k_fold))); rotate_left)))
local macro_rules | `(tactic| walk_at "call ref") => `(tactic| (k_here; (with_reducible show wpAny _ _ (call (Value.ref 82) [] _) _ _ _); k_dflt (refine' c_alfid _ _ _ _ _ _ _ _ _ _ _ _ _ _ _ _ _ _ _ _ _ _ _ _ _ ?k1 ?k2 ?k3 ?k4 ?k5 ?kK ?kd ?ku ?_ ?_; (case k1 => k_asm); (case k2 => k_asm); (case k3 => k_asm); (case k4 => k_asm); (case k5 => k_asm); (case kK => first | exact rfl | assumption); (case kd => walk_at "my room"); (case ku => walk_at "my room"); (focus (unfold Bck; intro v9 n9 h' tk' F' N' r9; obtain ⟨x9, d9, ka9, kb9, e9, e8, l2, l1, hfa, hfm⟩ := r9; subst e9; subst e8; (try k_lt l1); (try k_lt2 l2); (try dsimp only); (try k_fold))); rotate_left; (focus (unfold Rai; intro n9 r9; obtain ⟨e9, hno⟩ := r9; subst e9; intro g' e' t' vs' h' tk' FG' R' U'; (try dsimp only); (try k_fold))); rotate_left)))
local macro_rules | `(tactic| walk_at "my sub") => `(tactic| ((repeat' (refine List.forall_mem_cons.mpr ⟨by k_mem, ?_⟩)); (intro p hp; repeat (first | exact hp | apply List.Mem.tail))))
local macro_rules | `(tactic| walk_at "my no") => `(tactic| first | assumption | exact and_no1 (by assumption) | exact and_no2 (by assumption) | exact and_no1 (no8 (by assumption)) | exact and_no2 (no8 (by assumption)))
local macro_rules | `(tactic| walk_at "my raise") => `(tactic| ((try dsimp only [InitBack]); refine' Rai.use2 ?H ?C ?U ?F ?R ?S; (case H => assumption); (case C => walk_at "my no"); (case U => assumption); (case F => assumption); (case R => assumption); (case S => walk_at "my sub")))
local macro_rules | `(tactic| walk_at "subscriptTail Attribute Name Attribute ref int") => `(tactic| (k_here; k_dflt (refine kba_turn (value' := PySem.Expr.Name (PySem.Str.ofString "_") ⟨0, 0, 0, 0⟩) (fun _ => rfl) ?_)))
local macro_rules | `(tactic| walk_at "subscriptTail Name Attribute ref int") => `(tactic| (k_here; (with_reducible show wpAny _ _ (subscriptTail _ _ (Value.ref _) (Value.int _ _)) _ _ _); k_dflt (refine' map_item ?k1 ?k2 ?k3 ?_; (case k1 => first | exact keyed57 (by k_asm) | exact keyed58 (by k_asm)); (case k2 => k_asm); (case k3 => k_asm); intro t')))
local macro_rules | `(tactic| walk_at "call builtin:_struct.pack") => `(tactic| (k_here; (with_reducible show wpAny _ _ (call (Value.builtin _) [Value.str _ _, Value.int _ _]) _ _ _); refine call_pack (by assumption) (by assumption) ?_; intro t'))
local macro_rules | `(tactic| walk_at "subscriptTail Name Slice bytes ref") => `(tactic| (k_here; (with_reducible show wpAny _ _ (subscriptTail _ (Expr.Slice _ _ none _) (Value.bytes (packB _) _) (Value.ref _)) _ _ _); (with_reducible rename Fr _ _ _ _ => F'); (with_reducible rename News _ _ _ _ => N'); (refine KBc.slice_K (s := ⟨_, _, _, _, _⟩) F' N' rfl (by constructor) (by constructor) (by rw [KBw.ints_length, packB_size]; decide) ?_); intro h' t' tk' F' N' kbcK))
set_option maxHeartbeats 8000000 in
theorem c_byte (w : World) (mean : ExcName → Option Value) (mg mb : Str → Option Value) (news : List (Addr × Obj)) (y dy : Addr) (fm fa : Int) (ka kb tm ta : Tok) (h1 : (y, instObj 82 dy) ∈ news) (h2 : (dy, dAl w fm fa ka kb tm ta) ∈ news) (ha : ok8 fa = true) (hm : ok8 fm = true) :
    Does 5 w mean mg mb 72 [.ref y] [] news (fun r news' => news' = news ∧ ∃ t', r = .int (16 * (fm / 8) + fa / 8) t') (fun nx => nx = news ∧ False) := by
  intro dp un cn cs a ccd cl outer A₀ base h₀ L m s Q E B F K N T hk hdp hun hret hraise
  have b1 := ok8_bnd ha
  have b2 := ok8_bnd hm
  refine wpAny_call ?_
  walk_at "my enter"
  k_steps
  rw [ok8_byte ha hm]
  exact hret.use (by assumption) (by assumption) ⟨rfl, _, rfl⟩
set_option maxHeartbeats 8000000 in
theorem c_abytes (w : World) (mean : ExcName → Option Value) (mg mb : Str → Option Value) (news : List (Addr × Obj)) (x dx y dy : Addr) (v1 v2 : Int) (f1 f2 : Value) (k1 k2 k3 k4 k5 tv1 tv2 : Tok) (fm fa : Int) (ka kb tm ta : Tok)
    (m1 : (x, instObj 157 dx) ∈ news) (m2 : (dx, dML w v1 v2 f1 f2 y k1 k2 k3 k4 k5 tv1 tv2) ∈ news) (m3 : (y, instObj 82 dy) ∈ news) (m4 : (dy, dAl w fm fa ka kb tm ta) ∈ news) (ha : ok8 fa = true) (h0 : 0 ≤ v1) (h63 : v1 < 2 ^ 63) :
    Does 5 w mean mg mb 130 [.ref x] [] news (fun r news' => news' = news ∧ ∃ b t', r = .bytes b t' ∧ KBw.bInts b = digs (fa / 8).toNat v1) (fun nx => nx = news ∧ False) := by
  intro dp un cn cs a ccd cl outer A₀ base h₀ L m s Q E B F K N T hk hdp hun hret hraise
  have b1 := ok8_bnd ha
  refine wpAny_call ?_
  walk_at "my enter"
  k_steps
  exact hret.use (by assumption) (by assumption) ⟨rfl, _, _, rfl, cut_digs h0 h63 ha⟩
set_option maxHeartbeats 8000000 in
theorem c_mbytes (w : World) (mean : ExcName → Option Value) (mg mb : Str → Option Value) (news : List (Addr × Obj)) (x dx y dy : Addr) (v1 v2 : Int) (f1 f2 : Value) (k1 k2 k3 k4 k5 tv1 tv2 : Tok) (fm fa : Int) (ka kb tm ta : Tok)
    (m1 : (x, instObj 157 dx) ∈ news) (m2 : (dx, dML w v1 v2 f1 f2 y k1 k2 k3 k4 k5 tv1 tv2) ∈ news) (m3 : (y, instObj 82 dy) ∈ news) (m4 : (dy, dAl w fm fa ka kb tm ta) ∈ news) (ha : ok8 fm = true) (h0 : 0 ≤ v2) (h63 : v2 < 2 ^ 63) :
    Does 5 w mean mg mb 137 [.ref x] [] news (fun r news' => news' = news ∧ ∃ b t', r = .bytes b t' ∧ KBw.bInts b = digs (fm / 8).toNat v2) (fun nx => nx = news ∧ False) := by
  intro dp un cn cs a ccd cl outer A₀ base h₀ L m s Q E B F K N T hk hdp hun hret hraise
  have b1 := ok8_bnd ha
  refine wpAny_call ?_
  walk_at "my enter"
  k_steps
  exact hret.use (by assumption) (by assumption) ⟨rfl, _, _, rfl, cut_digs h0 h63 ha⟩
end
/-- the lines that were read for the part above are not those of the next one -/
theorem pause_C3 : True ∧ True := by first | (walk1; fail) | exact ⟨trivial, trivial⟩
section
theorem fill_C4 : (PySem.Challenge.rw_fe0333_01, hd.heap_39) = (PySem.Challenge.rw_fe0333_01, hd.heap_39) := by k_fill; rfl
local macro_rules | `(tactic| walk_at "binaryOp Pow int int") => `(tactic| (k_here; (with_reducible refine pow_int_small ?kb1 ?kb2 ?kb3 ?_); (case kb1 => first | decide | exact fmod_nn _ (by decide)); (case kb2 => first | decide | exact fmod_le6 _ (by decide) (by decide)); (case kb3 => decide)))
local macro_rules | `(tactic| walk_at "getMethod ref") => `(tactic| (k_here; (with_reducible show wpAny _ _ (getMethod (Value.ref 57) (Str.ofString "keys") _) _ _ _); refine keys_get (keyed57 (by k_asm)) (by k_asm) ?_))
local macro_rules | `(tactic| walk_at "getMethod ref") => `(tactic| (k_here; (with_reducible show wpAny _ _ (getMethod (Value.ref 58) (Str.ofString "keys") _) _ _ _); refine keys_get (keyed58 (by k_asm)) (by k_asm) ?_))
local macro_rules | `(tactic| walk_at "call builtin:dict.keys") => `(tactic| (k_here; (with_reducible show wpAny _ _ (call (Value.builtin "dict.keys") [Value.ref _]) _ _ _); (first | (refine keys_call (keyed57 (by k_asm)) (by k_asm) (by k_asm) ?_) | (refine keys_call (keyed58 (by k_asm)) (by k_asm) (by k_asm) ?_)); intro V' h' F' N' l1; (try k_lt l1)))
local macro_rules | `(tactic| walk_at "call type:list") => `(tactic| (k_here; (with_reducible show wpAny _ _ (call (Value.type _) [Value.ref _]) _ _ _); (first | (refine keys_list (keyed57 (by k_asm)) rfl (by k_asm) (by k_asm) (by k_mem) ?_) | (refine keys_list (keyed58 (by k_asm)) rfl (by k_asm) (by k_asm) (by k_mem) ?_)); intro B' c' h' tk' t1 t2 t3 t4 t5 t6 t7 t8 F' N' l1; (try k_lt l1)))
local macro_rules | `(tactic| walk_at "binaryOp Mod str ref") => `(tactic| (k_here; (with_reducible show wpAny _ _ (binaryOp Operator.Mod (Value.str (Str.ofString "address_format must be an integer selected from : %s ") _) (Value.ref _)) _ _ _); refine' text1 ?a1 ?a2 ?a3 ?g ?u ?_; (case a1 => k_asm); (case a2 => k_asm); (case a3 => k_mem); (case g => (first | (simp only [guards_deeper, guards_make]; done) | ((try simp only [guards_deeper, guards_make]); rfl))); (case u => (have hc9 := cLine_is; (try simp only [units_make, units_deeper, units_in1]); (try dsimp only [ktrTop]); omega)); intro t' h' tk' F' N'))
local macro_rules | `(tactic| walk_at "binaryOp Mod str ref") => `(tactic| (k_here; (with_reducible show wpAny _ _ (binaryOp Operator.Mod (Value.str (Str.ofString "memorysize_format must be an integer selected from : %s") _) (Value.ref _)) _ _ _); refine' text2 ?a1 ?a2 ?a3 ?g ?u ?_; (case a1 => k_asm); (case a2 => k_asm); (case a3 => k_mem); (case g => (first | (simp only [guards_deeper, guards_make]; done) | ((try simp only [guards_deeper, guards_make]); rfl))); (case u => (have hc9 := cLine_is; (try simp only [units_make, units_deeper, units_in1]); (try dsimp only [ktrTop]); omega)); intro t' h' tk' F' N'))
local macro_rules | `(tactic| walk_at "my enter") => `(tactic| k_dflt (refine' code_def ?k1 ?k2 ?k3 ?k4 ?k5 ?kA ?kF ?kK ?k6 ?k7 ?k8 ?k9 ?kB ?_ ?c2 ?c3 ?c4 ?c5; (case kA => exact rfl); (case kF => exact rfl); (case kK => first | assumption | exact rfl); (case k1 => k_asm); (case k2 => k_asm); (case k3 => k_asm); (case k4 => k_asm); (case k5 => k_asm); (case k6 => k_is); (case k7 => k_is); (case k8 => ((try simp only [depth_make, depth_deeper, depth_in1]); (try dsimp only [ktrTop]); omega)); (case k9 => first | exact BindsTo.of_eq rfl | exact binds_K (by k_in) rfl (by k_is) rfl rfl rfl); (case c5 => decide); (case kB => exact locs rfl); (case c2 => exact rfl); (case c3 => exact rfl); (case c4 => exact rfl); k_whole; intro g' L' h' FG' F' N' B' X' T'; (try dsimp only); (try k_fold)))
local macro_rules | `(tactic| walk_at "my make") => `(tactic| (k_dflt (refine' call_cls ?k1 ?k2 ?k3 ?k4 ?k5 ?k6 ?_; (case k1 => k_asm); (case k2 => k_asm); (case k3 => k_asm); (case k4 => k_is); (case k5 => k_is); (case k6 => k_is); k_whole; intro x' d' h' F' N' l1 l2; (try k_lt l1); (try k_lt2 l2); (try k_sweep)); walk_at "my enter"))
local macro_rules | `(tactic| walk_at "my room") => `(tactic| ((try simp only [depth_make, depth_deeper, depth_in1, units_make, units_deeper, units_in1]); (try dsimp only [ktrTop]); omega))
local macro_rules | `(tactic| walk_at "leaving ref") => `(tactic| (k_here; first | (refine' leave_raiseS ?k1 ?k0 ?k2 ?k3 ?_; (case k0 => first | assumption | exact Heap.MadeExc.of (by assumption)); (case k2 => assumption); (case k1 => assumption); (case k3 => k_asm); k_whole; intro h' t' S' R' U'; (try dsimp only at S' R' U' ⊢)) | (refine' leave_onS ?k1 ?k2 ?k3 ?k4 ?_; (case k3 => assumption); (case k2 => assumption); (case k1 => assumption); (case k4 => assumption); k_whole; intro h' S' R' U'; (try dsimp only at S' R' U' ⊢))))
local macro_rules | `(tactic| walk_at "call ref") => `(tactic| (k_here; (with_reducible show wpAny _ _ (call (Value.ref 116) [Value.ref _, Value.int _ _] _) _ _ _); k_dflt (refine' c_auto1 _ _ _ _ _ _ _ _ _ _ _ _ _ _ _ _ _ _ _ _ _ _ _ _ ?k1 ?k2 ?k3 ?k4 ?k5 ?kK ?kd ?ku ?_ ?_; (case k1 => k_asm); (case k2 => k_asm); (case k3 => k_asm); (case k4 => k_asm); (case k5 => k_asm); (case kK => first | exact rfl | assumption); (case kd => walk_at "my room"); (case ku => walk_at "my room"); (focus (unfold Bck; intro v9 n9 h' tk' F' N' r9; obtain ⟨e9, hle, t9, e8⟩ := r9; subst e9; subst e8; (try dsimp only); (try k_fold))); rotate_left; (focus (unfold Rai; intro n9 r9; obtain ⟨e9, hle⟩ := r9; subst e9; intro g' e' t' vs' h' tk' FG' R' U'; (try dsimp only); (try k_fold))); rotate_left)))
local macro_rules | `(tactic| walk_at "call ref") => `(tactic| (k_here; (with_reducible show wpAny _ _ (call (Value.ref 123) [Value.ref _, Value.int _ _] _) _ _ _); k_dflt (refine' c_auto2 _ _ _ _ _ _ _ _ _ _ _ _ _ _ _ _ _ _ _ _ _ _ _ _ ?k1 ?k2 ?k3 ?k4 ?k5 ?kK ?kd ?ku ?_ ?_; (case k1 => k_asm); (case k2 => k_asm); (case k3 => k_asm); (case k4 => k_asm); (case k5 => k_asm); (case kK => first | exact rfl | assumption); (case kd => walk_at "my room"); (case ku => walk_at "my room"); (focus (unfold Bck; intro v9 n9 h' tk' F' N' r9; obtain ⟨e9, hle, t9, e8⟩ := r9; subst e9; subst e8; (try dsimp only); (try k_fold))); rotate_left; (focus (unfold Rai; intro n9 r9; obtain ⟨e9, hle⟩ := r9; subst e9; intro g' e' t' vs' h' tk' FG' R' U'; (try dsimp only); (try k_fold))); rotate_left)))
local macro_rules | `(tactic| walk_at "call ref") => `(tactic| (k_here; (with_reducible show wpAny _ _ (call (Value.ref 82) [] _) _ _ _); k_dflt (refine' c_alfid _ _ _ _ _ _ _ _ _ _ _ _ _ _ _ _ _ _ _ _ _ _ _ _ _ ?k1 ?k2 ?k3 ?k4 ?k5 ?kK ?kd ?ku ?_ ?_; (case k1 => k_asm); (case k2 => k_asm); (case k3 => k_asm); (case k4 => k_asm); (case k5 => k_asm); (case kK => first | exact rfl | assumption); (case kd => walk_at "my room"); (case ku => walk_at "my room"); (focus (unfold Bck; intro v9 n9 h' tk' F' N' r9; obtain ⟨x9, d9, ka9, kb9, e9, e8, l2, l1, hfa, hfm⟩ := r9; subst e9; subst e8; (try k_lt l1); (try k_lt2 l2); (try dsimp only); (try k_fold))); rotate_left; (focus (unfold Rai; intro n9 r9; obtain ⟨e9, hno⟩ := r9; subst e9; intro g' e' t' vs' h' tk' FG' R' U'; (try dsimp only); (try k_fold))); rotate_left)))
local macro_rules | `(tactic| walk_at "my sub") => `(tactic| ((repeat' (refine List.forall_mem_cons.mpr ⟨by k_mem, ?_⟩)); (intro p hp; repeat (first | exact hp | apply List.Mem.tail))))
local macro_rules | `(tactic| walk_at "my no") => `(tactic| first | assumption | exact and_no1 (by assumption) | exact and_no2 (by assumption) | exact and_no1 (no8 (by assumption)) | exact and_no2 (no8 (by assumption)))
local macro_rules | `(tactic| walk_at "my raise") => `(tactic| ((try dsimp only [InitBack]); refine' Rai.use2 ?H ?C ?U ?F ?R ?S; (case H => assumption); (case C => walk_at "my no"); (case U => assumption); (case F => assumption); (case R => assumption); (case S => walk_at "my sub")))
local macro_rules | `(tactic| walk_at "subscriptTail Attribute Name Attribute ref int") => `(tactic| (k_here; k_dflt (refine kba_turn (value' := PySem.Expr.Name (PySem.Str.ofString "_") ⟨0, 0, 0, 0⟩) (fun _ => rfl) ?_)))
local macro_rules | `(tactic| walk_at "subscriptTail Name Attribute ref int") => `(tactic| (k_here; (with_reducible show wpAny _ _ (subscriptTail _ _ (Value.ref _) (Value.int _ _)) _ _ _); k_dflt (refine' map_item ?k1 ?k2 ?k3 ?_; (case k1 => first | exact keyed57 (by k_asm) | exact keyed58 (by k_asm)); (case k2 => k_asm); (case k3 => k_asm); intro t')))
local macro_rules | `(tactic| walk_at "call builtin:_struct.pack") => `(tactic| (k_here; (with_reducible show wpAny _ _ (call (Value.builtin _) [Value.str _ _, Value.int _ _]) _ _ _); refine call_pack (by assumption) (by assumption) ?_; intro t'))
local macro_rules | `(tactic| walk_at "subscriptTail Name Slice bytes ref") => `(tactic| (k_here; (with_reducible show wpAny _ _ (subscriptTail _ (Expr.Slice _ _ none _) (Value.bytes (packB _) _) (Value.ref _)) _ _ _); (with_reducible rename Fr _ _ _ _ => F'); (with_reducible rename News _ _ _ _ => N'); (refine KBc.slice_K (s := ⟨_, _, _, _, _⟩) F' N' rfl (by constructor) (by constructor) (by rw [KBw.ints_length, packB_size]; decide) ?_); intro h' t' tk' F' N' kbcK))
local macro_rules | `(tactic| walk_at "callWith ref nil") => `(tactic| (k_here; k_dflt (refine' callWith_KW0 ?k1 ?k2 ?k3 ?_; (case k1 => k_asm); (case k2 => k_is); (case k3 => exact rfl); k_whole)))
theorem binds_of {K : Frag} {s : Shared} {f : Addr} {oc : Value} {od : Option Addr} {fd0 : FuncData} {osl : Array (Option Value)} {args : Args} {binds : List (Str × Value)} (h0 : K.lookup f = some ⟨oc, od, .func fd0, osl⟩) (hb : BindsTo s fd0 args binds) :
    ∀ o fd, K.lookup f = some o → o.data = .func fd → BindsTo s fd args binds := fun o fd h1 h2 => by
  rw [h0] at h1; cases h1; cases h2; exact hb
abbrev Binds9 (w : World) (f : Addr) (vs : List Value) (kw : List (Str × Value)) (binds : List (Str × Value)) : Prop :=
  ∀ (s : Shared), (hd.heap_39 w.params).In s.heap → ∀ (o : Obj) (fd : FuncData), (hd.heap_39 w.params).lookup f = some o → o.data = .func fd → BindsTo s fd ⟨vs, kw⟩ binds
local macro_rules | `(tactic| walk_at "my enterb") => `(tactic| k_dflt (refine' code_def ?k1 ?k2 ?k3 ?k4 ?k5 ?kA ?kF ?kK ?k6 ?k7 ?k8 ?k9 ?kB ?_ ?c2 ?c3 ?c4 ?c5; (case kA => exact rfl); (case kF => exact rfl); (case kK => first | assumption | exact rfl); (case k1 => k_asm); (case k2 => k_asm); (case k3 => k_asm); (case k4 => k_asm); (case k5 => k_asm); (case k6 => k_is); (case k7 => k_is); (case k8 => ((try simp only [depth_make, depth_deeper, depth_in1]); (try dsimp only [ktrTop]); omega)); (case k9 => exact (by assumption : Binds9 _ _ _ _ _) _ (by k_in) _ _ (by k_is) rfl); (case c5 => decide); (case kB => exact locs rfl); (case c2 => exact rfl); (case c3 => exact rfl); (case c4 => exact rfl); k_whole; intro g' L' h' FG' F' N' B' X' T'; (try dsimp only); (try k_fold)))
theorem off_second {e T t a : Addr} {p : Addr × Obj} {o : Obj} {tl : List (Addr × Obj)} (h : ∀ q ∈ p :: (a, o) :: tl, q.1 ≠ e ∧ q.1 ≠ T ∧ q.1 ≠ t) : @Ne Nat a e ∧ @Ne Nat a T ∧ @Ne Nat a t := h (a, o) (.tail _ (.head _))
local macro_rules | `(tactic| walk_at "my catch") => `(tactic| (refine' caught_bare ?R ?F ?K ?U ?XB ?TB ?D ?_; (case R => assumption); (case U => assumption); (case F => assumption); (case K => assumption); (case XB => exact Ground9.inK (by assumption)); (case TB => exact Ground9.top (by assumption)); (case D => exact dicts_push (by assumption) rfl (by assumption)); intro h' g' T' oe' oT' ot' Tn' F' N' H' off' B' X' P' U'; obtain ⟨n1, n2, n3⟩ := off_second off'))
theorem off_same {e T t a : Addr} {p : Addr × Obj} {o o' : Obj} {tl : List (Addr × Obj)} (h : ∀ q ∈ p :: (a, o) :: tl, q.1 ≠ e ∧ q.1 ≠ T ∧ q.1 ≠ t) : ∀ q ∈ p :: (a, o') :: tl, q.1 ≠ e ∧ q.1 ≠ T ∧ q.1 ≠ t := fun q hq => by
  rcases List.mem_cons.mp hq with hq | hq
  · exact hq ▸ h p (.head _)
  rcases List.mem_cons.mp hq with hq | hq
  · exact hq ▸ h (a, o) (.tail _ (.head _))
  · exact h q (.tail _ (.tail _ hq))
local macro_rules | `(tactic| walk_at "my reraise") => `(tactic| (refine' reraise ?K ?F ?N ?H ?off ?T ?hE; (case H => assumption); (case N => assumption); (case off => first | assumption | exact off_same (by assumption)); (case F => assumption); (case T => assumption); (case K => assumption); intro h' R' U'))
def aft (c o : Option Int) : Option Int := match c with | some f => some f | none => o
def aftT (c : Option Int) (t s : Tok) : Tok := match c with | some _ => t | none => s
set_option maxHeartbeats 8000000 in
theorem c_set (w : World) (mean : ExcName → Option Value) (mg mb : Str → Option Value) (tl : List (Addr × Obj)) (x dx y : Addr) (v1 v2 : Int) (c0 c1 o0 o1 : Option Int) (k1 k2 k3 k4 k5 tv1 tv2 t0 t1 s0 s1 : Tok)
    (hxd : @Ne Nat x dx) (hoff : OwnOff tl [dx]) (vs : List Value) (kw : List (Str × Value)) (hb : Binds9 w 109 vs kw [(Str.ofString "self", .ref x), (Str.ofString "address_format", cellV o0 s0), (Str.ofString "memorysize_format", cellV o1 s1)]) :
    DoesD 20 w mean mg mb 109 vs kw ((x, instObj 157 dx) :: (dx, dML w v1 v2 (cellV c0 t0) (cellV c1 t1) y k1 k2 k3 k4 k5 tv1 tv2) :: tl)
      (fun r news' => r = .none ∧ ∃ y' dy' ka kb ta' tm', news' = (y', instObj 82 dy') :: (dy', dAl w (fmtOf (aft c1 o1) v2) (fmtOf (aft c0 o0) v1) ka kb tm' ta') :: (x, instObj 157 dx) :: (dx, dML w v1 v2 (cellV (aft c0 o0) (aftT c0 t0 s0)) (cellV (aft c1 o1) (aftT c1 t1 s1)) y' k1 k2 k3 k4 k5 tv1 tv2) :: tl ∧
        AllLt dy' tl ∧ belowN x dy' ∧ belowN dx dy' ∧ belowN dy' y' ∧ ok8 (fmtOf (aft c0 o0) v1) = true ∧ ok8 (fmtOf (aft c1 o1) v2) = true)
      (fun nx => nx = ((x, instObj 157 dx) :: (dx, dML w v1 v2 (cellV c0 t0) (cellV c1 t1) y k1 k2 k3 k4 k5 tv1 tv2) :: tl) ∧ (ok8 (fmtOf (aft c0 o0) v1) && ok8 (fmtOf (aft c1 o1) v2)) = false) := by
  cases c0 <;> cases c1 <;> cases o0 <;> cases o1 <;> (
  intro dp un cn cs a ccd cl outer A₀ base h₀ L m s Q E B F K N T hk hdp hun GB D hret hraise
  dsimp only [cellV, fmtOf, aft, aftT] at hb hret hraise ⊢
  refine wpAny_call ?_
  walk_at "my enterb"
  k_steps
  all_goals first
    | exact hret.use (by assumption) (by assumption) ⟨rfl, _, _, _, _, _, _, rfl, (by assumption : _ < _ ∧ _ < _ ∧ AllLt _ tl).2.2, by (unfold belowN; omega), by (unfold belowN; omega), by (unfold belowN; omega), by assumption, by assumption⟩
    | (walk_at "my catch"
       k_steps
       walk_at "my reraise"
       walk_at "my raise")
  )
end
/-- the lines that were read for the part above are not those of the next one -/
theorem pause_C4 : True ∧ True := by first | (walk1; fail) | exact ⟨trivial, trivial⟩
section
theorem fill_C5 : (PySem.Challenge.rw_fe0333_01, hd.heap_39) = (PySem.Challenge.rw_fe0333_01, hd.heap_39) := by k_fill; rfl
local macro_rules | `(tactic| walk_at "binaryOp Pow int int") => `(tactic| (k_here; (with_reducible refine pow_int_small ?kb1 ?kb2 ?kb3 ?_); (case kb1 => first | decide | exact fmod_nn _ (by decide)); (case kb2 => first | decide | exact fmod_le6 _ (by decide) (by decide)); (case kb3 => decide)))
local macro_rules | `(tactic| walk_at "getMethod ref") => `(tactic| (k_here; (with_reducible show wpAny _ _ (getMethod (Value.ref 57) (Str.ofString "keys") _) _ _ _); refine keys_get (keyed57 (by k_asm)) (by k_asm) ?_))
local macro_rules | `(tactic| walk_at "getMethod ref") => `(tactic| (k_here; (with_reducible show wpAny _ _ (getMethod (Value.ref 58) (Str.ofString "keys") _) _ _ _); refine keys_get (keyed58 (by k_asm)) (by k_asm) ?_))
local macro_rules | `(tactic| walk_at "call builtin:dict.keys") => `(tactic| (k_here; (with_reducible show wpAny _ _ (call (Value.builtin "dict.keys") [Value.ref _]) _ _ _); (first | (refine keys_call (keyed57 (by k_asm)) (by k_asm) (by k_asm) ?_) | (refine keys_call (keyed58 (by k_asm)) (by k_asm) (by k_asm) ?_)); intro V' h' F' N' l1; (try k_lt l1)))
local macro_rules | `(tactic| walk_at "call type:list") => `(tactic| (k_here; (with_reducible show wpAny _ _ (call (Value.type _) [Value.ref _]) _ _ _); (first | (refine keys_list (keyed57 (by k_asm)) rfl (by k_asm) (by k_asm) (by k_mem) ?_) | (refine keys_list (keyed58 (by k_asm)) rfl (by k_asm) (by k_asm) (by k_mem) ?_)); intro B' c' h' tk' t1 t2 t3 t4 t5 t6 t7 t8 F' N' l1; (try k_lt l1)))
local macro_rules | `(tactic| walk_at "binaryOp Mod str ref") => `(tactic| (k_here; (with_reducible show wpAny _ _ (binaryOp Operator.Mod (Value.str (Str.ofString "address_format must be an integer selected from : %s ") _) (Value.ref _)) _ _ _); refine' text1 ?a1 ?a2 ?a3 ?g ?u ?_; (case a1 => k_asm); (case a2 => k_asm); (case a3 => k_mem); (case g => (first | (simp only [guards_deeper, guards_make]; done) | ((try simp only [guards_deeper, guards_make]); rfl))); (case u => (have hc9 := cLine_is; (try simp only [units_make, units_deeper, units_in1]); (try dsimp only [ktrTop]); omega)); intro t' h' tk' F' N'))
local macro_rules | `(tactic| walk_at "binaryOp Mod str ref") => `(tactic| (k_here; (with_reducible show wpAny _ _ (binaryOp Operator.Mod (Value.str (Str.ofString "memorysize_format must be an integer selected from : %s") _) (Value.ref _)) _ _ _); refine' text2 ?a1 ?a2 ?a3 ?g ?u ?_; (case a1 => k_asm); (case a2 => k_asm); (case a3 => k_mem); (case g => (first | (simp only [guards_deeper, guards_make]; done) | ((try simp only [guards_deeper, guards_make]); rfl))); (case u => (have hc9 := cLine_is; (try simp only [units_make, units_deeper, units_in1]); (try dsimp only [ktrTop]); omega)); intro t' h' tk' F' N'))
local macro_rules | `(tactic| walk_at "my enter") => `(tactic| k_dflt (refine' code_def ?k1 ?k2 ?k3 ?k4 ?k5 ?kA ?kF ?kK ?k6 ?k7 ?k8 ?k9 ?kB ?_ ?c2 ?c3 ?c4 ?c5; (case kA => exact rfl); (case kF => exact rfl); (case kK => first | assumption | exact rfl); (case k1 => k_asm); (case k2 => k_asm); (case k3 => k_asm); (case k4 => k_asm); (case k5 => k_asm); (case k6 => k_is); (case k7 => k_is); (case k8 => ((try simp only [depth_make, depth_deeper, depth_in1]); (try dsimp only [ktrTop]); omega)); (case k9 => first | exact BindsTo.of_eq rfl | exact binds_K (by k_in) rfl (by k_is) rfl rfl rfl); (case c5 => decide); (case kB => exact locs rfl); (case c2 => exact rfl); (case c3 => exact rfl); (case c4 => exact rfl); k_whole; intro g' L' h' FG' F' N' B' X' T'; (try dsimp only); (try k_fold)))
local macro_rules | `(tactic| walk_at "my make") => `(tactic| (k_dflt (refine' call_cls ?k1 ?k2 ?k3 ?k4 ?k5 ?k6 ?_; (case k1 => k_asm); (case k2 => k_asm); (case k3 => k_asm); (case k4 => k_is); (case k5 => k_is); (case k6 => k_is); k_whole; intro x' d' h' F' N' l1 l2; (try k_lt l1); (try k_lt2 l2); (try k_sweep)); walk_at "my enter"))
local macro_rules | `(tactic| walk_at "my room") => `(tactic| ((try simp only [depth_make, depth_deeper, depth_in1, units_make, units_deeper, units_in1]); (try dsimp only [ktrTop]); omega))
local macro_rules | `(tactic| walk_at "leaving ref") => `(tactic| (k_here; first | (refine' leave_raiseS ?k1 ?k0 ?k2 ?k3 ?_; (case k0 => first | assumption | exact Heap.MadeExc.of (by assumption)); (case k2 => assumption); (case k1 => assumption); (case k3 => k_asm); k_whole; intro h' t' S' R' U'; (try dsimp only at S' R' U' ⊢)) | (refine' leave_onS ?k1 ?k2 ?k3 ?k4 ?_; (case k3 => assumption); (case k2 => assumption); (case k1 => assumption); (case k4 => assumption); k_whole; intro h' S' R' U'; (try dsimp only at S' R' U' ⊢))))
local macro_rules | `(tactic| walk_at "my sub") => `(tactic| ((repeat' (refine List.forall_mem_cons.mpr ⟨by k_mem, ?_⟩)); (intro p hp; repeat (first | exact hp | apply List.Mem.tail))))
local macro_rules | `(tactic| walk_at "my no") => `(tactic| first | assumption | exact and_no1 (by assumption) | exact and_no2 (by assumption) | exact and_no1 (no8 (by assumption)) | exact and_no2 (no8 (by assumption)))
local macro_rules | `(tactic| walk_at "my raise") => `(tactic| ((try dsimp only [InitBack]); refine' Rai.use2 ?H ?C ?U ?F ?R ?S; (case H => assumption); (case C => walk_at "my no"); (case U => assumption); (case F => assumption); (case R => assumption); (case S => walk_at "my sub")))
theorem wor1 (n : Int) : 0 ≤ 2 ^ Int.toNat 64 + (n.fdiv 11).fmod 1000 := Int.add_nonneg (by decide) (fmod_nn (n.fdiv 11) (k := 1000) (by decide))
theorem wor2 (n : Int) : 0 ≤ 2 ^ Int.toNat 64 - 1 - (n.fdiv 11).fmod 1000 := Int.sub_nonneg_of_le (Int.le_trans (fmod_le6 (n.fdiv 11) (k := 1000) (by decide) (by decide)) (by decide))
set_option maxHeartbeats 8000000 in
theorem c_worth (w : World) (mean : ExcName → Option Value) (mg mb : Str → Option Value) (news : List (Addr × Obj)) (n : Int) (t : Tok) :
    Does 5 w mean mg mb 182 [.int n t] [] news (fun r news' => news' = news ∧ ∃ v t', r = .int v t' ∧ 0 ≤ v) (fun nx => nx = news ∧ False) := by
  intro dp un cn cs a ccd cl outer A₀ base h₀ L m s Q E B F K N T hk hdp hun hret hraise
  refine wpAny_call ?_
  walk_at "my enter"
  k_steps
  · exact hret.use (by assumption) (by assumption) ⟨rfl, _, _, rfl, wor1 _⟩
  · exact hret.use (by assumption) (by assumption) ⟨rfl, _, _, rfl, wor2 _⟩
  · exact hret.use (by assumption) (by assumption) ⟨rfl, _, _, rfl, fmod_nn _ (by decide)⟩
set_option maxHeartbeats 8000000 in
theorem c_formats (w : World) (mean : ExcName → Option Value) (mg mb : Str → Option Value) (news : List (Addr × Obj)) :
    Does 5 w mean mg mb 168 [] [] news (fun r news' => ∃ l t1 t2 t3 t4 t5 t6 t7 t8 t9 t10 t11 t12, r = .ref l ∧ news' = (l, listOf #[.none, .int 8 t1, .int 16 t2, .int 24 t3, .int 32 t4, .int 40 t5, .int 48 t6, .int 56 t7, .int 64 t8, .int 0 t9, .int 12 t10, .int 72 t11, .int (-8) t12] 0) :: news ∧ (∀ p ∈ news, p.1 < l)) (fun nx => nx = news ∧ False) := by
  intro dp un cn cs a ccd cl outer A₀ base h₀ L m s Q E B F K N T hk hdp hun hret hraise
  refine wpAny_call ?_
  walk_at "my enter"
  k_steps
  exact hret.use (by assumption) (by assumption) ⟨_, _, _, _, _, _, _, _, _, _, _, _, _, rfl, rfl, by assumption⟩
set_option maxHeartbeats 8000000 in
theorem c_eight (w : World) (mean : ExcName → Option Value) (mg mb : Str → Option Value) (news : List (Addr × Obj)) :
    Does 5 w mean mg mb 175 [] [] news (fun r news' => ∃ l t1 t2 t3 t4 t5 t6 t7 t8, r = .ref l ∧ news' = (l, listOf #[.int 8 t1, .int 16 t2, .int 24 t3, .int 32 t4, .int 40 t5, .int 48 t6, .int 56 t7, .int 64 t8] 0) :: news ∧ (∀ p ∈ news, p.1 < l)) (fun nx => nx = news ∧ False) := by
  intro dp un cn cs a ccd cl outer A₀ base h₀ L m s Q E B F K N T hk hdp hun hret hraise
  refine wpAny_call ?_
  walk_at "my enter"
  k_steps
  exact hret.use (by assumption) (by assumption) ⟨_, _, _, _, _, _, _, _, _, rfl, rfl, by assumption⟩
end
/-- the lines that were read for the part above are not those of the next one -/
theorem pause_C5 : True ∧ True := by first | (walk1; fail) | exact ⟨trivial, trivial⟩
section
theorem fill_C6 : (PySem.Challenge.rw_fe0333_01, hd.heap_39) = (PySem.Challenge.rw_fe0333_01, hd.heap_39) := by k_fill; rfl
local macro_rules | `(tactic| walk_at "binaryOp Pow int int") => `(tactic| (k_here; (with_reducible refine pow_int_small ?kb1 ?kb2 ?kb3 ?_); (case kb1 => first | decide | exact fmod_nn _ (by decide)); (case kb2 => first | decide | exact fmod_le6 _ (by decide) (by decide)); (case kb3 => decide)))
local macro_rules | `(tactic| walk_at "getMethod ref") => `(tactic| (k_here; (with_reducible show wpAny _ _ (getMethod (Value.ref 57) (Str.ofString "keys") _) _ _ _); refine keys_get (keyed57 (by k_asm)) (by k_asm) ?_))
local macro_rules | `(tactic| walk_at "getMethod ref") => `(tactic| (k_here; (with_reducible show wpAny _ _ (getMethod (Value.ref 58) (Str.ofString "keys") _) _ _ _); refine keys_get (keyed58 (by k_asm)) (by k_asm) ?_))
local macro_rules | `(tactic| walk_at "call builtin:dict.keys") => `(tactic| (k_here; (with_reducible show wpAny _ _ (call (Value.builtin "dict.keys") [Value.ref _]) _ _ _); (first | (refine keys_call (keyed57 (by k_asm)) (by k_asm) (by k_asm) ?_) | (refine keys_call (keyed58 (by k_asm)) (by k_asm) (by k_asm) ?_)); intro V' h' F' N' l1; (try k_lt l1)))
local macro_rules | `(tactic| walk_at "call type:list") => `(tactic| (k_here; (with_reducible show wpAny _ _ (call (Value.type _) [Value.ref _]) _ _ _); (first | (refine keys_list (keyed57 (by k_asm)) rfl (by k_asm) (by k_asm) (by k_mem) ?_) | (refine keys_list (keyed58 (by k_asm)) rfl (by k_asm) (by k_asm) (by k_mem) ?_)); intro B' c' h' tk' t1 t2 t3 t4 t5 t6 t7 t8 F' N' l1; (try k_lt l1)))
local macro_rules | `(tactic| walk_at "binaryOp Mod str ref") => `(tactic| (k_here; (with_reducible show wpAny _ _ (binaryOp Operator.Mod (Value.str (Str.ofString "address_format must be an integer selected from : %s ") _) (Value.ref _)) _ _ _); refine' text1 ?a1 ?a2 ?a3 ?g ?u ?_; (case a1 => k_asm); (case a2 => k_asm); (case a3 => k_mem); (case g => (first | (simp only [guards_deeper, guards_make]; done) | ((try simp only [guards_deeper, guards_make]); rfl))); (case u => (have hc9 := cLine_is; (try simp only [units_make, units_deeper, units_in1]); (try dsimp only [ktrTop]); omega)); intro t' h' tk' F' N'))
local macro_rules | `(tactic| walk_at "binaryOp Mod str ref") => `(tactic| (k_here; (with_reducible show wpAny _ _ (binaryOp Operator.Mod (Value.str (Str.ofString "memorysize_format must be an integer selected from : %s") _) (Value.ref _)) _ _ _); refine' text2 ?a1 ?a2 ?a3 ?g ?u ?_; (case a1 => k_asm); (case a2 => k_asm); (case a3 => k_mem); (case g => (first | (simp only [guards_deeper, guards_make]; done) | ((try simp only [guards_deeper, guards_make]); rfl))); (case u => (have hc9 := cLine_is; (try simp only [units_make, units_deeper, units_in1]); (try dsimp only [ktrTop]); omega)); intro t' h' tk' F' N'))
local macro_rules | `(tactic| walk_at "my enter") => `(tactic| k_dflt (refine' code_def ?k1 ?k2 ?k3 ?k4 ?k5 ?kA ?kF ?kK ?k6 ?k7 ?k8 ?k9 ?kB ?_ ?c2 ?c3 ?c4 ?c5; (case kA => exact rfl); (case kF => exact rfl); (case kK => first | assumption | exact rfl); (case k1 => k_asm); (case k2 => k_asm); (case k3 => k_asm); (case k4 => k_asm); (case k5 => k_asm); (case k6 => k_is); (case k7 => k_is); (case k8 => ((try simp only [depth_make, depth_deeper, depth_in1]); (try dsimp only [ktrTop]); omega)); (case k9 => first | exact BindsTo.of_eq rfl | exact binds_K (by k_in) rfl (by k_is) rfl rfl rfl); (case c5 => decide); (case kB => exact locs rfl); (case c2 => exact rfl); (case c3 => exact rfl); (case c4 => exact rfl); k_whole; intro g' L' h' FG' F' N' B' X' T'; (try dsimp only); (try k_fold)))
local macro_rules | `(tactic| walk_at "my make") => `(tactic| (k_dflt (refine' call_cls ?k1 ?k2 ?k3 ?k4 ?k5 ?k6 ?_; (case k1 => k_asm); (case k2 => k_asm); (case k3 => k_asm); (case k4 => k_is); (case k5 => k_is); (case k6 => k_is); k_whole; intro x' d' h' F' N' l1 l2; (try k_lt l1); (try k_lt2 l2); (try k_sweep)); walk_at "my enter"))
local macro_rules | `(tactic| walk_at "my room") => `(tactic| ((try simp only [depth_make, depth_deeper, depth_in1, units_make, units_deeper, units_in1]); (try dsimp only [ktrTop]); omega))
local macro_rules | `(tactic| walk_at "leaving ref") => `(tactic| (k_here; first | (refine' leave_raiseS ?k1 ?k0 ?k2 ?k3 ?_; (case k0 => first | assumption | exact Heap.MadeExc.of (by assumption)); (case k2 => assumption); (case k1 => assumption); (case k3 => k_asm); k_whole; intro h' t' S' R' U'; (try dsimp only at S' R' U' ⊢)) | (refine' leave_onS ?k1 ?k2 ?k3 ?k4 ?_; (case k3 => assumption); (case k2 => assumption); (case k1 => assumption); (case k4 => assumption); k_whole; intro h' S' R' U'; (try dsimp only at S' R' U' ⊢))))
local macro_rules | `(tactic| walk_at "my sub") => `(tactic| ((repeat' (refine List.forall_mem_cons.mpr ⟨by k_mem, ?_⟩)); (intro p hp; repeat (first | exact hp | apply List.Mem.tail))))
local macro_rules | `(tactic| walk_at "my no") => `(tactic| first | assumption | exact and_no1 (by assumption) | exact and_no2 (by assumption) | exact and_no1 (no8 (by assumption)) | exact and_no2 (no8 (by assumption)))
local macro_rules | `(tactic| walk_at "my raise") => `(tactic| ((try dsimp only [InitBack]); refine' Rai.use2 ?H ?C ?U ?F ?R ?S; (case H => assumption); (case C => walk_at "my no"); (case U => assumption); (case F => assumption); (case R => assumption); (case S => walk_at "my sub")))
local macro_rules | `(tactic| walk_at "call ref") => `(tactic| (k_here; (with_reducible show wpAny _ _ (call (Value.ref 175) _ _) _ _ _); k_dflt (refine' c_eight _ _ _ _ _ _ _ _ _ _ _ _ _ _ _ _ _ _ _ _ _ ?k1 ?k2 ?k3 ?k4 ?k5 ?kK ?kd ?ku ?_ ?_; (case k1 => k_asm); (case k2 => k_asm); (case k3 => k_asm); (case k4 => k_asm); (case k5 => k_asm); (case kK => first | exact rfl | assumption); (case kd => walk_at "my room"); (case ku => walk_at "my room"); (focus (unfold Bck; intro v9 n9 h' tk' F' N' r9; obtain ⟨l9, t1, t2, t3, t4, t5, t6, t7, t8, e9, e8, l1⟩ := r9; subst e9; subst e8; (try k_lt l1); (try dsimp only); (try k_fold))); rotate_left; (focus (unfold Rai; intro n9 r9; (exact r9.2.elim))))))
local macro_rules | `(tactic| walk_at "call ref") => `(tactic| (k_here; (with_reducible show wpAny _ _ (call (Value.ref 168) _ _) _ _ _); k_dflt (refine' c_formats _ _ _ _ _ _ _ _ _ _ _ _ _ _ _ _ _ _ _ _ _ ?k1 ?k2 ?k3 ?k4 ?k5 ?kK ?kd ?ku ?_ ?_; (case k1 => k_asm); (case k2 => k_asm); (case k3 => k_asm); (case k4 => k_asm); (case k5 => k_asm); (case kK => first | exact rfl | assumption); (case kd => walk_at "my room"); (case ku => walk_at "my room"); (focus (unfold Bck; intro v9 n9 h' tk' F' N' r9; obtain ⟨l9, t1, t2, t3, t4, t5, t6, t7, t8, t9, t10, t11, t12, e9, e8, l1⟩ := r9; subst e9; subst e8; (try k_lt l1); (try dsimp only); (try k_fold))); rotate_left; (focus (unfold Rai; intro n9 r9; (exact r9.2.elim))))))
local macro_rules | `(tactic| walk_at "call ref") => `(tactic| (k_here; (with_reducible show wpAny _ _ (call (Value.ref 182) [Value.int _ _] _) _ _ _); k_dflt (refine' c_worth _ _ _ _ _ _ _ _ _ _ _ _ _ _ _ _ _ _ _ _ _ _ _ ?k1 ?k2 ?k3 ?k4 ?k5 ?kK ?kd ?ku ?_ ?_; (case k1 => k_asm); (case k2 => k_asm); (case k3 => k_asm); (case k4 => k_asm); (case k5 => k_asm); (case kK => first | exact rfl | assumption); (case kd => walk_at "my room"); (case ku => walk_at "my room"); (focus (unfold Bck; intro v9 n9 h' tk' F' N' r9; obtain ⟨e9, v9, t9, e8, hv0⟩ := r9; subst e9; subst e8; (try dsimp only); (try k_fold))); rotate_left; (focus (unfold Rai; intro n9 r9; (exact r9.2.elim))))))
def wid (c : Option Int) (n : Int) : Int := match c with | some f => if ok8 f = true then f / 8 else 0 | none => if oc n ≤ 8 then oc n else 0
theorem whlIf_dec {P : Prop} [Decidable P] {T F : Prop} (t : P → T) (f : ¬ P → F) : WhlIf (decide P) T F := by
  by_cases h : P
  · exact WhlIf.yes (decide_eq_true h) (t h)
  · exact WhlIf.no (decide_eq_false h) (f h)
def JW (g : Heap) (L' : Addr) (m0 : Str → Option Value) (news : List (Addr × Obj)) (n : Int) (s : Shared) (c : Int × Int) (s' : Shared) : Prop :=
  ∃ h tk t1 t2, s' = { s with heap := h, toks := tk } ∧ 0 ≤ c.2 ∧ c.1 + oc c.2 = oc n ∧ Fr g L' h (fun y => if y = Str.ofString "width" then some (.int c.1 t1) else if y = Str.ofString "number" then some (.int c.2 t2) else m0 y) ∧ News g L' h news
def TW (g : Heap) (L' : Addr) (m0 : Str → Option Value) (news : List (Addr × Obj)) (n : Int) (s : Shared) (z : Int) (s' : Shared) : Prop := ∃ c', JW g L' m0 news n s c' s' ∧ c'.2.toNat < z.toNat
theorem TW.intro {g : Heap} {L' : Addr} {m0 : Str → Option Value} {news : List (Addr × Obj)} {n k z : Int} {s : Shared} {h : Heap} {tk : Nat} {m' : Str → Option Value} {t1 t2 : Tok} (hz : 0 < z) (hk : k + oc z = oc n) (F : Fr g L' h m') (N : News g L' h news)
    (e1 : m' (Str.ofString "width") = some (.int (k + 1) t1)) (e2 : m' (Str.ofString "number") = some (.int (z.fdiv 256) t2)) (e3 : ∀ y, y ≠ Str.ofString "width" → y ≠ Str.ofString "number" → m' y = m0 y) : TW g L' m0 news n s z { s with heap := h, toks := tk } := by
  have hs := oc_step hz
  have hd : z.fdiv 256 = z / 256 := Int.fdiv_eq_ediv_of_nonneg _ (by decide)
  refine ⟨(k + 1, z.fdiv 256), ⟨h, tk, t1, t2, rfl, by dsimp only; omega, by dsimp only; omega, Fr.asMap F fun y => ?_, N⟩, by dsimp only; omega⟩
  by_cases h1 : y = Str.ofString "width"
  · rw [if_pos h1, h1, e1]
  · rw [if_neg h1]
    by_cases h2 : y = Str.ofString "number"
    · rw [if_pos h2, h2, e2]
    · rw [if_neg h2, e3 y h1 h2]
theorem while_width {prog : Program} {w : World} {A : Around} {E : Value → Shared → Prop} {env : Env} {test : PySem.Expr} {body : List Stmt} {pos : Pos} {Q : Flow → Shared → Prop} {g : Heap} {L' : Addr} {m0 : Str → Option Value} {news : List (Addr × Obj)} {n : Int} {s : Shared} {t tn : Tok}
    (F : Fr g L' s.heap (fun y => if y = Str.ofString "width" then some (.int 0 t) else m0 y)) (N : News g L' s.heap news) (h0 : m0 (Str.ofString "number") = some (.int n tn)) (hn : 0 ≤ n) (hE : PassesOwn (model prog w) A env E)
    (turn : ∀ (k z : Int) h tk t1 t2, 0 ≤ z → k + oc z = oc n → Fr g L' h (fun y => if y = Str.ofString "width" then some (.int k t1) else if y = Str.ofString "number" then some (.int z t2) else m0 y) → News g L' h news →
      wpAny (model prog w) A (isTrue test env (eval test env)) (fun b s₂ => WhlIf b (wpAny (model prog w) A (execs body env) (fun f s' => match f with | .next => TW g L' m0 news n s z s' | .cont => TW g L' m0 news n s z s' | .brk => Q .next s' | .ret v => Q (.ret v) s') E s₂) (wpAny (model prog w) A (execs [] env) Q E s₂)) E { s with heap := h, toks := tk }) :
    wpAny (model prog w) A (exec (.While test body [] pos) env) Q E s := by
  refine whl_start 0 (whl_ind (JW g L' m0 news n s) (fun c => c.2.toNat) hE (fun c s' hj => ?_) _ (0, n) _ (Nat.le_refl _) ⟨s.heap, s.toks, t, tn, rfl, hn, Int.zero_add _, Fr.asMap F fun y => ?_, N⟩)
  · obtain ⟨h, tk, t1, t2, rfl, h1, h2, F', N'⟩ := hj
    exact turn _ _ h tk t1 t2 h1 h2 F' N'
  · by_cases e1 : y = Str.ofString "width"
    · rw [if_pos e1, if_pos e1]
    · rw [if_neg e1, if_neg e1]
      by_cases e2 : y = Str.ofString "number"
      · rw [if_pos e2, e2, h0]
      · rw [if_neg e2]
local macro_rules | `(tactic| walk_at "exec While Compare cons nil") => `(tactic| (k_here; k_dflt (refine' while_width ?F ?N ?h0 ?hn ?hE ?_; (case F => k_asm); (case N => k_asm); (case h0 => exact rfl); (case hn => assumption); (case hE => first | passes_own | with_unfolding_all passes_own)); intro k9 z9 h' tk' t1 t2 hz9 hk9 F' N'))
local macro_rules | `(tactic| walk_at "WhlIf") => `(tactic| (refine whlIf_dec (fun hc9 => ?_) (fun hc9 => ?_)))
theorem any8 (f : Int) : ([8, 16, 24, 32, 40, 48, 56, 64].any fun x => x == f) = ok8 f := by
  rw [Bool.eq_iff_iff]; simp [ok8]; omega
theorem wid_yes {f : Int} (h : ([8, 16, 24, 32, 40, 48, 56, 64].any fun x => x == f) = true) : f.fdiv 8 = if ok8 f = true then f / 8 else 0 := by
  rw [any8] at h; rw [if_pos h, Int.fdiv_eq_ediv_of_nonneg _ (by decide)]
theorem wid_no {f : Int} (h : ([8, 16, 24, 32, 40, 48, 56, 64].any fun x => x == f) = false) : 0 = if ok8 f = true then f / 8 else 0 := by
  rw [any8] at h; rw [if_neg (by rw [h]; exact Bool.false_ne_true)]
theorem wid_le {z k n : Int} (hc : ¬ 0 < z) (h0 : 0 ≤ z) (hk : k + oc z = oc n) (h8 : k ≤ 8) : k = if oc n ≤ 8 then oc n else 0 := by
  have e : z = 0 := by omega
  rw [e, oc_zero] at hk
  rw [if_pos (by omega)]; omega
theorem wid_gt {z k n : Int} (hc : ¬ 0 < z) (h0 : 0 ≤ z) (hk : k + oc z = oc n) (h8 : ¬ k ≤ 8) : 0 = if oc n ≤ 8 then oc n else 0 := by
  have e : z = 0 := by omega
  rw [e, oc_zero] at hk
  rw [if_neg (by omega)]
theorem allLt_mem {d : Addr} {l : List (Addr × Obj)} (h : AllLt d l) : ∀ p ∈ l, @LT.lt Nat _ p.1 d := by
  induction l with
  | nil => intro p hp; cases hp
  | cons q l ih =>
    intro p hp
    rcases List.mem_cons.mp hp with e | hp
    · rw [e]; exact h.1
    · exact ih h.2 p hp
theorem add_one {d : Addr} {o : Obj} {news : List (Addr × Obj)} (h : ∀ p ∈ news, p.1 < d) : ∀ p ∈ news, ∀ q ∈ [(d, o)], @LT.lt Nat _ p.1 q.1 := fun p hp q hq => by
  rw [List.mem_singleton.mp hq]; exact h p hp
theorem add_none {news : List (Addr × Obj)} : ∀ p ∈ news, ∀ q ∈ ([] : List (Addr × Obj)), @LT.lt Nat _ p.1 q.1 := fun _ _ _ h => (nomatch h)
set_option maxHeartbeats 8000000 in
theorem c_width (w : World) (mean : ExcName → Option Value) (mg mb : Str → Option Value) (news : List (Addr × Obj)) (c : Option Int) (n : Int) (t tn : Tok) (hn : 0 ≤ n) :
    Does 10 w mean mg mb 189 [cellV c t, .int n tn] [] news (fun r news' => (∃ add, news' = add ++ news ∧ ∀ p ∈ news, ∀ q ∈ add, @LT.lt Nat _ p.1 q.1) ∧ ∃ t', r = .int (wid c n) t') (fun nx => nx = news ∧ False) := by
  cases c
  · intro dp un cn cs a ccd cl outer A₀ base h₀ L m s Q E B F K N T hk hdp hun hret hraise
    dsimp only [cellV, wid] at hret hraise ⊢
    refine wpAny_call ?_
    walk_at "my enter"
    k_steps
    · refine TW.intro (by assumption) (by assumption) (by assumption) (by assumption) rfl rfl fun y h1 h2 => ?_
      rw [if_neg h1, if_neg h2, if_neg h1, if_neg h2]
    · exact hret.use (by assumption) (by assumption) ⟨⟨[], rfl, add_none⟩, _, congrArg (fun z => Value.int z _) (wid_le (by assumption) (by assumption) (by assumption) (by assumption))⟩
    · exact hret.use (by assumption) (by assumption) ⟨⟨[], rfl, add_none⟩, _, congrArg (fun z => Value.int z _) (wid_gt (by assumption) (by assumption) (by assumption) (by assumption))⟩
  · intro dp un cn cs a ccd cl outer A₀ base h₀ L m s Q E B F K N T hk hdp hun hret hraise
    dsimp only [cellV, wid] at hret hraise ⊢
    refine wpAny_call ?_
    walk_at "my enter"
    k_steps
    · exact hret.use (by assumption) (by assumption) ⟨⟨[_], rfl, add_one (by assumption)⟩, _, congrArg (fun z => Value.int z _) (wid_yes (by assumption))⟩
    · exact hret.use (by assumption) (by assumption) ⟨⟨[_], rfl, add_one (by assumption)⟩, _, congrArg (fun z => Value.int z _) (wid_no (by assumption))⟩
end
/-- the lines that were read for the part above are not those of the next one -/
theorem pause_C6 : True ∧ True := by first | (walk1; fail) | exact ⟨trivial, trivial⟩
section
theorem fill_C7 : (PySem.Challenge.rw_fe0333_01, hd.heap_39) = (PySem.Challenge.rw_fe0333_01, hd.heap_39) := by k_fill; rfl
local macro_rules | `(tactic| walk_at "binaryOp Pow int int") => `(tactic| (k_here; (with_reducible refine pow_int_small ?kb1 ?kb2 ?kb3 ?_); (case kb1 => first | decide | exact fmod_nn _ (by decide)); (case kb2 => first | decide | exact fmod_le6 _ (by decide) (by decide)); (case kb3 => decide)))
local macro_rules | `(tactic| walk_at "getMethod ref") => `(tactic| (k_here; (with_reducible show wpAny _ _ (getMethod (Value.ref 57) (Str.ofString "keys") _) _ _ _); refine keys_get (keyed57 (by k_asm)) (by k_asm) ?_))
local macro_rules | `(tactic| walk_at "getMethod ref") => `(tactic| (k_here; (with_reducible show wpAny _ _ (getMethod (Value.ref 58) (Str.ofString "keys") _) _ _ _); refine keys_get (keyed58 (by k_asm)) (by k_asm) ?_))
local macro_rules | `(tactic| walk_at "call builtin:dict.keys") => `(tactic| (k_here; (with_reducible show wpAny _ _ (call (Value.builtin "dict.keys") [Value.ref _]) _ _ _); (first | (refine keys_call (keyed57 (by k_asm)) (by k_asm) (by k_asm) ?_) | (refine keys_call (keyed58 (by k_asm)) (by k_asm) (by k_asm) ?_)); intro V' h' F' N' l1; (try k_lt l1)))
local macro_rules | `(tactic| walk_at "call type:list") => `(tactic| (k_here; (with_reducible show wpAny _ _ (call (Value.type _) [Value.ref _]) _ _ _); (first | (refine keys_list (keyed57 (by k_asm)) rfl (by k_asm) (by k_asm) (by k_mem) ?_) | (refine keys_list (keyed58 (by k_asm)) rfl (by k_asm) (by k_asm) (by k_mem) ?_)); intro B' c' h' tk' t1 t2 t3 t4 t5 t6 t7 t8 F' N' l1; (try k_lt l1)))
local macro_rules | `(tactic| walk_at "binaryOp Mod str ref") => `(tactic| (k_here; (with_reducible show wpAny _ _ (binaryOp Operator.Mod (Value.str (Str.ofString "address_format must be an integer selected from : %s ") _) (Value.ref _)) _ _ _); refine' text1 ?a1 ?a2 ?a3 ?g ?u ?_; (case a1 => k_asm); (case a2 => k_asm); (case a3 => k_mem); (case g => (first | (simp only [guards_deeper, guards_make]; done) | ((try simp only [guards_deeper, guards_make]); rfl))); (case u => (have hc9 := cLine_is; (try simp only [units_make, units_deeper, units_in1]); (try dsimp only [ktrTop]); omega)); intro t' h' tk' F' N'))
local macro_rules | `(tactic| walk_at "binaryOp Mod str ref") => `(tactic| (k_here; (with_reducible show wpAny _ _ (binaryOp Operator.Mod (Value.str (Str.ofString "memorysize_format must be an integer selected from : %s") _) (Value.ref _)) _ _ _); refine' text2 ?a1 ?a2 ?a3 ?g ?u ?_; (case a1 => k_asm); (case a2 => k_asm); (case a3 => k_mem); (case g => (first | (simp only [guards_deeper, guards_make]; done) | ((try simp only [guards_deeper, guards_make]); rfl))); (case u => (have hc9 := cLine_is; (try simp only [units_make, units_deeper, units_in1]); (try dsimp only [ktrTop]); omega)); intro t' h' tk' F' N'))
local macro_rules | `(tactic| walk_at "my enter") => `(tactic| k_dflt (refine' code_def ?k1 ?k2 ?k3 ?k4 ?k5 ?kA ?kF ?kK ?k6 ?k7 ?k8 ?k9 ?kB ?_ ?c2 ?c3 ?c4 ?c5; (case kA => exact rfl); (case kF => exact rfl); (case kK => first | assumption | exact rfl); (case k1 => k_asm); (case k2 => k_asm); (case k3 => k_asm); (case k4 => k_asm); (case k5 => k_asm); (case k6 => k_is); (case k7 => k_is); (case k8 => ((try simp only [depth_make, depth_deeper, depth_in1]); (try dsimp only [ktrTop]); omega)); (case k9 => first | exact BindsTo.of_eq rfl | exact binds_K (by k_in) rfl (by k_is) rfl rfl rfl); (case c5 => decide); (case kB => exact locs rfl); (case c2 => exact rfl); (case c3 => exact rfl); (case c4 => exact rfl); k_whole; intro g' L' h' FG' F' N' B' X' T'; (try dsimp only); (try k_fold)))
local macro_rules | `(tactic| walk_at "my make") => `(tactic| (k_dflt (refine' call_cls ?k1 ?k2 ?k3 ?k4 ?k5 ?k6 ?_; (case k1 => k_asm); (case k2 => k_asm); (case k3 => k_asm); (case k4 => k_is); (case k5 => k_is); (case k6 => k_is); k_whole; intro x' d' h' F' N' l1 l2; (try k_lt l1); (try k_lt2 l2); (try k_sweep)); walk_at "my enter"))
local macro_rules | `(tactic| walk_at "my room") => `(tactic| ((try simp only [depth_make, depth_deeper, depth_in1, units_make, units_deeper, units_in1]); (try dsimp only [ktrTop]); omega))
local macro_rules | `(tactic| walk_at "leaving ref") => `(tactic| (k_here; first | (refine' leave_raiseS ?k1 ?k0 ?k2 ?k3 ?_; (case k0 => first | assumption | exact Heap.MadeExc.of (by assumption)); (case k2 => assumption); (case k1 => assumption); (case k3 => k_asm); k_whole; intro h' t' S' R' U'; (try dsimp only at S' R' U' ⊢)) | (refine' leave_onS ?k1 ?k2 ?k3 ?k4 ?_; (case k3 => assumption); (case k2 => assumption); (case k1 => assumption); (case k4 => assumption); k_whole; intro h' S' R' U'; (try dsimp only at S' R' U' ⊢))))
local macro_rules | `(tactic| walk_at "my sub") => `(tactic| ((repeat' (refine List.forall_mem_cons.mpr ⟨by k_mem, ?_⟩)); (intro p hp; repeat (first | exact hp | apply List.Mem.tail))))
local macro_rules | `(tactic| walk_at "my no") => `(tactic| first | assumption | exact and_no1 (by assumption) | exact and_no2 (by assumption) | exact and_no1 (no8 (by assumption)) | exact and_no2 (no8 (by assumption)))
local macro_rules | `(tactic| walk_at "my raise") => `(tactic| ((try dsimp only [InitBack]); refine' Rai.use2 ?H ?C ?U ?F ?R ?S; (case H => assumption); (case C => walk_at "my no"); (case U => assumption); (case F => assumption); (case R => assumption); (case S => walk_at "my sub")))
local macro_rules | `(tactic| walk_at "call ref") => `(tactic| (k_here; (with_reducible show wpAny _ _ (call (Value.ref 175) _ _) _ _ _); k_dflt (refine' c_eight _ _ _ _ _ _ _ _ _ _ _ _ _ _ _ _ _ _ _ _ _ ?k1 ?k2 ?k3 ?k4 ?k5 ?kK ?kd ?ku ?_ ?_; (case k1 => k_asm); (case k2 => k_asm); (case k3 => k_asm); (case k4 => k_asm); (case k5 => k_asm); (case kK => first | exact rfl | assumption); (case kd => walk_at "my room"); (case ku => walk_at "my room"); (focus (unfold Bck; intro v9 n9 h' tk' F' N' r9; obtain ⟨l9, t1, t2, t3, t4, t5, t6, t7, t8, e9, e8, l1⟩ := r9; subst e9; subst e8; (try k_lt l1); (try dsimp only); (try k_fold))); rotate_left; (focus (unfold Rai; intro n9 r9; (exact r9.2.elim))))))
local macro_rules | `(tactic| walk_at "call ref") => `(tactic| (k_here; (with_reducible show wpAny _ _ (call (Value.ref 168) _ _) _ _ _); k_dflt (refine' c_formats _ _ _ _ _ _ _ _ _ _ _ _ _ _ _ _ _ _ _ _ _ ?k1 ?k2 ?k3 ?k4 ?k5 ?kK ?kd ?ku ?_ ?_; (case k1 => k_asm); (case k2 => k_asm); (case k3 => k_asm); (case k4 => k_asm); (case k5 => k_asm); (case kK => first | exact rfl | assumption); (case kd => walk_at "my room"); (case ku => walk_at "my room"); (focus (unfold Bck; intro v9 n9 h' tk' F' N' r9; obtain ⟨l9, t1, t2, t3, t4, t5, t6, t7, t8, t9, t10, t11, t12, e9, e8, l1⟩ := r9; subst e9; subst e8; (try k_lt l1); (try dsimp only); (try k_fold))); rotate_left; (focus (unfold Rai; intro n9 r9; (exact r9.2.elim))))))
local macro_rules | `(tactic| walk_at "call ref") => `(tactic| (k_here; (with_reducible show wpAny _ _ (call (Value.ref 182) [Value.int _ _] _) _ _ _); k_dflt (refine' c_worth _ _ _ _ _ _ _ _ _ _ _ _ _ _ _ _ _ _ _ _ _ _ _ ?k1 ?k2 ?k3 ?k4 ?k5 ?kK ?kd ?ku ?_ ?_; (case k1 => k_asm); (case k2 => k_asm); (case k3 => k_asm); (case k4 => k_asm); (case k5 => k_asm); (case kK => first | exact rfl | assumption); (case kd => walk_at "my room"); (case ku => walk_at "my room"); (focus (unfold Bck; intro v9 n9 h' tk' F' N' r9; obtain ⟨e9, v9, t9, e8, hv0⟩ := r9; subst e9; subst e8; (try dsimp only); (try k_fold))); rotate_left; (focus (unfold Rai; intro n9 r9; (exact r9.2.elim))))))
def mapD (l : Addr) (z : Int) (tz : Tok) (m0 : Str → Option Value) (y : Str) : Option Value := if y = Str.ofString "row" then some (.ref l) else if y = Str.ofString "number" then some (.int z tz) else m0 y
structure JD (n k : Int) (news : List (Addr × Obj)) (i : Nat) (l : Addr) (vs : List Value) (add : List (Addr × Obj)) (z : Int) : Prop where
  z0 : 0 ≤ z
  add : ∀ p ∈ news, ∀ q ∈ add, @LT.lt Nat _ p.1 q.1
  new : ∀ p ∈ news, @LT.lt Nat _ p.1 l
  ys : ∃ ys, IntsAre vs ys ∧ digs k.toNat n = digs (k.toNat - i) z ++ ys ∧ ys.length = i
abbrev LD (l : Addr) (vs : List Value) (nn : Nat) (add news : List (Addr × Obj)) : List (Addr × Obj) := (l, listOf vs.toArray nn) :: (add ++ news)
def JDm (n k : Int) (m0 : Str → Option Value) (news : List (Addr × Obj)) (i : Nat) (m : Str → Option Value) (nx : List (Addr × Obj)) : Prop :=
  ∃ l vs nn add z tz, nx = LD l vs nn add news ∧ JD n k news i l vs add z ∧ ∀ y, y ≠ Str.ofString "turn" → m y = mapD l z tz m0 y
def TD (g : Heap) (L' : Addr) (n k : Int) (m0 : Str → Option Value) (news : List (Addr × Obj)) (i : Nat) (own : List (Addr × Obj)) (s s' : Shared) : Prop := InvEndG g L' (JDm n k m0 news i) own s s'
theorem digs_step {k i : Nat} {n z : Int} {ys : List Int} (hi : i < k) (h : digs k n = digs (k - i) z ++ ys) : digs k n = digs (k - (i + 1)) (z / 256) ++ (z % 256 :: ys) := by
  rw [h, show k - i = (k - (i + 1)) + 1 from by omega, digs, List.append_assoc]; rfl
theorem for_digits {prog : Program} {w : World} {A : Around} {E : Value → Shared → Prop} {env : Env} {body : List Stmt} {Q : Flow → Shared → Prop} {g : Heap} {m0 : Str → Option Value} {news : List (Addr × Obj)} {n k : Int} {s : Shared} {l0 r : Addr} {tn t₀ u₀ v₀ : Tok}
    (F : Fr g env.locals s.heap m0) (N : News g env.locals s.heap ((l0, listOf #[] 0) :: news)) (hr : IsRange s.heap r 0 k 1 t₀ u₀ v₀) (hl0 : ∀ p ∈ news, p.1 < l0) (e1 : m0 (Str.ofString "row") = some (.ref l0)) (e2 : m0 (Str.ofString "number") = some (.int n tn)) (hn : 0 ≤ n) (hk0 : 0 ≤ k) (hk8 : k ≤ 8) (hh : A.handled = none)
    (turn : ∀ (i : Nat) l vs nn add z t tz h tk own ys, i < k.toNat → OwnOff own ((LD l vs nn add news).map (·.1)) → JD n k news i l vs add z → IntsAre vs ys → digs k.toNat n = digs (k.toNat - i) z ++ ys → ys.length = i → ys.length ≤ 8 → Fr g env.locals h (fun y => if y = Str.ofString "turn" then some (.int (0 + (i : Int) * 1) t) else if y = Str.ofString "row" then some (.ref l) else if y = Str.ofString "number" then some (.int z tz) else m0 y) → News g env.locals h ((l, listOf vs.toArray nn) :: (add ++ news ++ own)) →
      wpAny (model prog w) A (execs body env) (fun f s' => match f with | .next => TD g env.locals n k m0 news (i + 1) own s s' | .cont => TD g env.locals n k m0 news (i + 1) own s s' | .brk => Q .next s' | .ret v => Q (.ret v) s') E { s with heap := h, toks := tk })
    (done : ∀ l vs nn add z tz (u : Str → Option Value) h tk, (∀ p ∈ news, @LT.lt Nat _ p.1 l) → (∀ p ∈ news, ∀ q ∈ add, @LT.lt Nat _ p.1 q.1) → IntsAre vs (digs k.toNat n) → Fr g env.locals h (fun y => if y = Str.ofString "turn" then u y else if y = Str.ofString "row" then some (.ref l) else if y = Str.ofString "number" then some (.int z tz) else m0 y) → News g env.locals h ((l, listOf vs.toArray nn) :: (add ++ news)) → Q .next { s with heap := h, toks := tk }) :
    wpAny (model prog w) A (pyIter (.ref r)) (fun it s₂ => LoopAtV prog w A g env (Str.ofString "turn") body Q E it s₂) E s := by
  refine range_inv (n := k.toNat) (JDm n k m0 news) hh hr (small_one (by omega) (by omega) (by omega) (by omega)) ?_ F N ⟨l0, [], 0, [], n, tn, rfl, ⟨hn, add_none, hl0, [], .nil, by simp, rfl⟩, fun y _ => ?_⟩ ?_ ?_
  · have e : k = (k.toNat : Int) := by omega
    rw [e]; exact rangeSize_nat _ _
  · unfold mapD
    by_cases h1 : y = Str.ofString "row"
    · rw [if_pos h1, h1, e1]
    · rw [if_neg h1]
      by_cases h2 : y = Str.ofString "number"
      · rw [if_pos h2, h2, e2]
      · rw [if_neg h2]
  · rintro i t m₁ nx h tk own hi hoff ⟨l, vs, nn, add, z, tz, rfl, hj, hm⟩ F₁ N₁
    obtain ⟨ys, hI, hd, hlen⟩ := hj.ys
    refine wpAny_mono (turn i l vs nn add z t tz h tk own ys hi hoff hj hI hd hlen (by omega) (Fr.asMap F₁ fun y => ?_) N₁) (fun f s' h' => ?_) fun _ _ h => h
    · by_cases h1 : y = Str.ofString "turn"
      · rw [if_pos h1, if_pos h1]
      · rw [if_neg h1, if_neg h1, hm y h1]; rfl
    · cases f with
      | next => exact h'
      | cont => exact h'
      | brk => exact h'
      | ret v => exact h'
  · rintro m₁ nx h tk ⟨l, vs, nn, add, z, tz, rfl, hj, hm⟩ F₁ N₁
    obtain ⟨ys, hI, hd, _⟩ := hj.ys
    rw [Nat.sub_self] at hd
    refine done l vs nn add z tz m₁ h tk hj.new hj.add (by rw [hd]; exact hI) (Fr.asMap F₁ fun y => ?_) N₁
    by_cases h1 : y = Str.ofString "turn"
    · rw [if_pos h1, h1]
    · rw [if_neg h1, hm y h1]; rfl
theorem size8 {z : Int} {ys : List Int} (h : ys.length ≤ 8) : [z].length + ys.length ≤ sizeLine := by rw [sizeLine_eq]; simp only [List.length_cons, List.length_nil]; omega
local macro_rules | `(tactic| walk_at "pyIter ref") => `(tactic| (k_here; (rename IsRange _ _ _ _ _ _ _ _ => rg9); k_dflt (refine' for_digits ?F ?N rg9 ?l0 ?e1 ?e2 ?hn ?hk0 ?hk8 ?hh ?_ ?_; (case F => k_asm); (case N => k_asm); (case l0 => assumption); (case e1 => exact rfl); (case e2 => exact rfl); (case hn => assumption); (case hk0 => assumption); (case hk8 => assumption); (case hh => exact rfl)); (focus (intro i9 l9 vs9 nn9 add9 z9 t9 tz9 h' tk' own9 ys9 hi9 off9 hj9 hI9 hd9 hlen9 hle9 F' N')); rotate_left; (focus (intro l9 vs9 nn9 add9 z9 tz9 u9 h' tk' hl9 ha9 hI9 F' N')); rotate_left))
local macro_rules | `(tactic| walk_at "binaryOp Add ref ref") => `(tactic| (k_here; (with_reducible show wpAny _ _ (binaryOp _ (Value.ref _) (Value.ref _)) _ _ _); k_dflt (refine' kmk_add_ints (ns := [_]) ?F ?N ?a ?b ?i ?j ?_ ?z; (case F => k_asm); (case N => k_asm); (case a => kmk_list); (case b => kmk_list); (case j => assumption); (case i => exact IntsAre.cons .nil); (case z => exact size8 (by assumption))); intro D' ws' h' F' N' l1 hI'; (try k_lt l1)))
theorem dat_ints {news : List (Addr × Obj)} {vs : List Value} {ns : List Int} (h : IntsAre vs ns) : DatAll news vs (ns.map Dat.int) := by
  induction h with
  | nil => exact .nil
  | cons n t _ ih => exact .cons (.int n t) ih
theorem add_cons {d : Addr} {o : Obj} {news add : List (Addr × Obj)} (h : ∀ p ∈ news, @LT.lt Nat _ p.1 d) (ha : ∀ p ∈ news, ∀ q ∈ add, @LT.lt Nat _ p.1 q.1) : ∀ p ∈ news, ∀ q ∈ (d, o) :: add, @LT.lt Nat _ p.1 q.1 := fun p hp q hq => by
  rcases List.mem_cons.mp hq with e | hq
  · rw [e]; exact h p hp
  · exact ha p hp q hq
theorem TD_intro {g h : Heap} {L' l l' D : Addr} {n k z : Int} {i nn nD : Nat} {news add own : List (Addr × Obj)} {vs ws : List Value} {ys : List Int} {o o' : Obj} {m0 m' : Str → Option Value} {s : Shared} {tk : Nat} {tz' : Tok}
    (hj : JD n k news i l vs add z) (hi : i < k.toNat) (off : OwnOff own ((LD l vs nn add news).map (·.1))) (hd : digs k.toNat n = digs (k.toNat - i) z ++ ys) (hlen : ys.length = i) (hI : IntsAre ws ([z.fmod 256] ++ ys))
    (l1 : l' < D ∧ l < D ∧ AllLt D (add ++ news ++ own)) (l2 : l < l' ∧ AllLt l' (add ++ news ++ own)) (F : Fr g L' h m') (N : News g L' h ((D, listOf ws.toArray nD) :: (l', o') :: (l, o) :: (add ++ news ++ own)))
    (e1 : m' (Str.ofString "row") = some (.ref D)) (e2 : m' (Str.ofString "number") = some (.int (z.fdiv 256) tz')) (e3 : ∀ y, y ≠ Str.ofString "turn" → y ≠ Str.ofString "row" → y ≠ Str.ofString "number" → m' y = m0 y) : TD g L' n k m0 news (i + 1) own s { s with heap := h, toks := tk } := by
  have hz : z.fdiv 256 = z / 256 := Int.fdiv_eq_ediv_of_nonneg _ (by decide)
  have hm : z.fmod 256 = z % 256 := Int.fmod_eq_emod_of_nonneg _ (by decide)
  have a1 := allLt_mem l1.2.2
  have a2 := allLt_mem l2.2
  have inAN : ∀ p, p ∈ add ++ news → p ∈ add ++ news ++ own := fun p hp => List.mem_append.mpr (.inl hp)
  refine InvEndG.intro (nx := LD D ws nD ((l', o') :: (l, o) :: add) news) F N ⟨D, ws, nD, (l', o') :: (l, o) :: add, z.fdiv 256, tz', rfl, ⟨?_, ?_, ?_, (z % 256) :: ys, ?_, ?_, ?_⟩, ?_⟩ ?_ ?_ ?_
  · rw [hz]; have := hj.z0; omega
  · intro p hp q hq
    rcases List.mem_cons.mp hq with e | hq
    · rw [e]; exact a2 p (inAN p (List.mem_append.mpr (.inr hp)))
    rcases List.mem_cons.mp hq with e | hq
    · rw [e]; exact hj.new p hp
    · exact hj.add p hp q hq
  · exact fun p hp => a1 p (inAN p (List.mem_append.mpr (.inr hp)))
  · rw [hm] at hI; exact hI
  · rw [hz]; exact digs_step hi hd
  · rw [List.length_cons, hlen]
  · intro y hy
    unfold mapD
    by_cases h1 : y = Str.ofString "row"
    · rw [if_pos h1, h1, e1]
    · rw [if_neg h1]
      by_cases h2 : y = Str.ofString "number"
      · rw [if_pos h2, h2, e2]
      · rw [if_neg h2, e3 y hy h1 h2]
  · intro p hp b hb
    have hb' : b ∈ D :: l' :: ((LD l vs nn add news).map (·.1)) := hb
    have hpo : p ∈ add ++ news ++ own := List.mem_append.mpr (.inr hp)
    rcases List.mem_cons.mp hb' with e | hb'
    · rw [e]; exact Nat.ne_of_lt (a1 p hpo)
    rcases List.mem_cons.mp hb' with e | hb'
    · rw [e]; exact Nat.ne_of_lt (a2 p hpo)
    · exact off p hp b hb'
  · intro p hp
    rcases List.mem_cons.mp hp with e | hp
    · rw [e]; exact .head _
    have hp' : p ∈ (l', o') :: (l, o) :: (add ++ news) := hp
    rcases List.mem_cons.mp hp' with e | hp
    · rw [e]; exact .tail _ (.head _)
    rcases List.mem_cons.mp hp with e | hp
    · rw [e]; exact .tail _ (.tail _ (.head _))
    · exact .tail _ (.tail _ (.tail _ (inAN p hp)))
  · exact fun p hp => .tail _ (.tail _ (.tail _ (List.mem_append.mpr (.inr hp))))
set_option maxHeartbeats 8000000 in
theorem c_digits (w : World) (mean : ExcName → Option Value) (mg mb : Str → Option Value) (news : List (Addr × Obj)) (n k : Int) (tn tk : Tok) (hn : 0 ≤ n) (hk0 : 0 ≤ k) (hk8 : k ≤ 8) :
    Does 10 w mean mg mb 196 [.int n tn, .int k tk] [] news (fun r news' => ∃ add, news' = add ++ news ∧ (∀ p ∈ news, ∀ q ∈ add, @LT.lt Nat _ p.1 q.1) ∧ DatIn add r (.list ((digs k.toNat n).map Dat.int))) (fun nx => nx = news ∧ False) := by
    intro dp un cn cs a ccd cl outer A₀ base h₀ L m s Q E B F K N T hk hdp hun hret hraise
    refine wpAny_call ?_
    walk_at "my enter"
    k_steps
    · refine TD_intro (by assumption) (by assumption) (by assumption) (by assumption) (by assumption) (by assumption) (by assumption) (by assumption) (by assumption) (by assumption) rfl rfl fun y h1 h2 h3 => ?_
      (repeat rw [if_neg (by assumption)])
    · refine hret.use (by assumption) (by assumption) ⟨(_, _) :: _, rfl, add_cons (by assumption) (by assumption), DatIn.list (.head _) (dat_ints (by assumption))⟩
end
/-- the lines that were read for the part above are not those of the next one -/
theorem pause_C7 : True ∧ True := by first | (walk1; fail) | exact ⟨trivial, trivial⟩
section
theorem fill_C8 : (PySem.Challenge.rw_fe0333_01, hd.heap_39) = (PySem.Challenge.rw_fe0333_01, hd.heap_39) := by k_fill; rfl
local macro_rules | `(tactic| walk_at "binaryOp Pow int int") => `(tactic| (k_here; (with_reducible refine pow_int_small ?kb1 ?kb2 ?kb3 ?_); (case kb1 => first | decide | exact fmod_nn _ (by decide)); (case kb2 => first | decide | exact fmod_le6 _ (by decide) (by decide)); (case kb3 => decide)))
local macro_rules | `(tactic| walk_at "getMethod ref") => `(tactic| (k_here; (with_reducible show wpAny _ _ (getMethod (Value.ref 57) (Str.ofString "keys") _) _ _ _); refine keys_get (keyed57 (by k_asm)) (by k_asm) ?_))
local macro_rules | `(tactic| walk_at "getMethod ref") => `(tactic| (k_here; (with_reducible show wpAny _ _ (getMethod (Value.ref 58) (Str.ofString "keys") _) _ _ _); refine keys_get (keyed58 (by k_asm)) (by k_asm) ?_))
local macro_rules | `(tactic| walk_at "call builtin:dict.keys") => `(tactic| (k_here; (with_reducible show wpAny _ _ (call (Value.builtin "dict.keys") [Value.ref _]) _ _ _); (first | (refine keys_call (keyed57 (by k_asm)) (by k_asm) (by k_asm) ?_) | (refine keys_call (keyed58 (by k_asm)) (by k_asm) (by k_asm) ?_)); intro V' h' F' N' l1; (try k_lt l1)))
local macro_rules | `(tactic| walk_at "call type:list") => `(tactic| (k_here; (with_reducible show wpAny _ _ (call (Value.type _) [Value.ref _]) _ _ _); (first | (refine keys_list (keyed57 (by k_asm)) rfl (by k_asm) (by k_asm) (by k_mem) ?_) | (refine keys_list (keyed58 (by k_asm)) rfl (by k_asm) (by k_asm) (by k_mem) ?_)); intro B' c' h' tk' t1 t2 t3 t4 t5 t6 t7 t8 F' N' l1; (try k_lt l1)))
local macro_rules | `(tactic| walk_at "binaryOp Mod str ref") => `(tactic| (k_here; (with_reducible show wpAny _ _ (binaryOp Operator.Mod (Value.str (Str.ofString "address_format must be an integer selected from : %s ") _) (Value.ref _)) _ _ _); refine' text1 ?a1 ?a2 ?a3 ?g ?u ?_; (case a1 => k_asm); (case a2 => k_asm); (case a3 => k_mem); (case g => (first | (simp only [guards_deeper, guards_make]; done) | ((try simp only [guards_deeper, guards_make]); rfl))); (case u => (have hc9 := cLine_is; (try simp only [units_make, units_deeper, units_in1]); (try dsimp only [ktrTop]); omega)); intro t' h' tk' F' N'))
local macro_rules | `(tactic| walk_at "binaryOp Mod str ref") => `(tactic| (k_here; (with_reducible show wpAny _ _ (binaryOp Operator.Mod (Value.str (Str.ofString "memorysize_format must be an integer selected from : %s") _) (Value.ref _)) _ _ _); refine' text2 ?a1 ?a2 ?a3 ?g ?u ?_; (case a1 => k_asm); (case a2 => k_asm); (case a3 => k_mem); (case g => (first | (simp only [guards_deeper, guards_make]; done) | ((try simp only [guards_deeper, guards_make]); rfl))); (case u => (have hc9 := cLine_is; (try simp only [units_make, units_deeper, units_in1]); (try dsimp only [ktrTop]); omega)); intro t' h' tk' F' N'))
local macro_rules | `(tactic| walk_at "my enter") => `(tactic| k_dflt (refine' code_def ?k1 ?k2 ?k3 ?k4 ?k5 ?kA ?kF ?kK ?k6 ?k7 ?k8 ?k9 ?kB ?_ ?c2 ?c3 ?c4 ?c5; (case kA => exact rfl); (case kF => exact rfl); (case kK => first | assumption | exact rfl); (case k1 => k_asm); (case k2 => k_asm); (case k3 => k_asm); (case k4 => k_asm); (case k5 => k_asm); (case k6 => k_is); (case k7 => k_is); (case k8 => ((try simp only [depth_make, depth_deeper, depth_in1]); (try dsimp only [ktrTop]); omega)); (case k9 => first | exact BindsTo.of_eq rfl | exact binds_K (by k_in) rfl (by k_is) rfl rfl rfl); (case c5 => decide); (case kB => exact locs rfl); (case c2 => exact rfl); (case c3 => exact rfl); (case c4 => exact rfl); k_whole; intro g' L' h' FG' F' N' B' X' T'; (try dsimp only); (try k_fold)))
local macro_rules | `(tactic| walk_at "my make") => `(tactic| (k_dflt (refine' call_cls ?k1 ?k2 ?k3 ?k4 ?k5 ?k6 ?_; (case k1 => k_asm); (case k2 => k_asm); (case k3 => k_asm); (case k4 => k_is); (case k5 => k_is); (case k6 => k_is); k_whole; intro x' d' h' F' N' l1 l2; (try k_lt l1); (try k_lt2 l2); (try k_sweep)); walk_at "my enter"))
local macro_rules | `(tactic| walk_at "my room") => `(tactic| ((try simp only [depth_make, depth_deeper, depth_in1, units_make, units_deeper, units_in1]); (try dsimp only [ktrTop]); omega))
local macro_rules | `(tactic| walk_at "leaving ref") => `(tactic| (k_here; first | (refine' leave_raiseS ?k1 ?k0 ?k2 ?k3 ?_; (case k0 => first | assumption | exact Heap.MadeExc.of (by assumption)); (case k2 => assumption); (case k1 => assumption); (case k3 => k_asm); k_whole; intro h' t' S' R' U'; (try dsimp only at S' R' U' ⊢)) | (refine' leave_onS ?k1 ?k2 ?k3 ?k4 ?_; (case k3 => assumption); (case k2 => assumption); (case k1 => assumption); (case k4 => assumption); k_whole; intro h' S' R' U'; (try dsimp only at S' R' U' ⊢))))
local macro_rules | `(tactic| walk_at "my sub") => `(tactic| ((repeat' (refine List.forall_mem_cons.mpr ⟨by k_mem, ?_⟩)); (intro p hp; repeat (first | exact hp | apply List.Mem.tail))))
local macro_rules | `(tactic| walk_at "my no") => `(tactic| first | assumption | exact and_no1 (by assumption) | exact and_no2 (by assumption) | exact and_no1 (no8 (by assumption)) | exact and_no2 (no8 (by assumption)))
local macro_rules | `(tactic| walk_at "my raise") => `(tactic| ((try dsimp only [InitBack]); refine' Rai.use2 ?H ?C ?U ?F ?R ?S; (case H => assumption); (case C => walk_at "my no"); (case U => assumption); (case F => assumption); (case R => assumption); (case S => walk_at "my sub")))
local macro_rules | `(tactic| walk_at "call ref") => `(tactic| (k_here; (with_reducible show wpAny _ _ (call (Value.ref 175) _ _) _ _ _); k_dflt (refine' c_eight _ _ _ _ _ _ _ _ _ _ _ _ _ _ _ _ _ _ _ _ _ ?k1 ?k2 ?k3 ?k4 ?k5 ?kK ?kd ?ku ?_ ?_; (case k1 => k_asm); (case k2 => k_asm); (case k3 => k_asm); (case k4 => k_asm); (case k5 => k_asm); (case kK => first | exact rfl | assumption); (case kd => walk_at "my room"); (case ku => walk_at "my room"); (focus (unfold Bck; intro v9 n9 h' tk' F' N' r9; obtain ⟨l9, t1, t2, t3, t4, t5, t6, t7, t8, e9, e8, l1⟩ := r9; subst e9; subst e8; (try k_lt l1); (try dsimp only); (try k_fold))); rotate_left; (focus (unfold Rai; intro n9 r9; (exact r9.2.elim))))))
local macro_rules | `(tactic| walk_at "call ref") => `(tactic| (k_here; (with_reducible show wpAny _ _ (call (Value.ref 168) _ _) _ _ _); k_dflt (refine' c_formats _ _ _ _ _ _ _ _ _ _ _ _ _ _ _ _ _ _ _ _ _ ?k1 ?k2 ?k3 ?k4 ?k5 ?kK ?kd ?ku ?_ ?_; (case k1 => k_asm); (case k2 => k_asm); (case k3 => k_asm); (case k4 => k_asm); (case k5 => k_asm); (case kK => first | exact rfl | assumption); (case kd => walk_at "my room"); (case ku => walk_at "my room"); (focus (unfold Bck; intro v9 n9 h' tk' F' N' r9; obtain ⟨l9, t1, t2, t3, t4, t5, t6, t7, t8, t9, t10, t11, t12, e9, e8, l1⟩ := r9; subst e9; subst e8; (try k_lt l1); (try dsimp only); (try k_fold))); rotate_left; (focus (unfold Rai; intro n9 r9; (exact r9.2.elim))))))
local macro_rules | `(tactic| walk_at "call ref") => `(tactic| (k_here; (with_reducible show wpAny _ _ (call (Value.ref 182) [Value.int _ _] _) _ _ _); k_dflt (refine' c_worth _ _ _ _ _ _ _ _ _ _ _ _ _ _ _ _ _ _ _ _ _ _ _ ?k1 ?k2 ?k3 ?k4 ?k5 ?kK ?kd ?ku ?_ ?_; (case k1 => k_asm); (case k2 => k_asm); (case k3 => k_asm); (case k4 => k_asm); (case k5 => k_asm); (case kK => first | exact rfl | assumption); (case kd => walk_at "my room"); (case ku => walk_at "my room"); (focus (unfold Bck; intro v9 n9 h' tk' F' N' r9; obtain ⟨e9, v9, t9, e8, hv0⟩ := r9; subst e9; subst e8; (try dsimp only); (try k_fold))); rotate_left; (focus (unfold Rai; intro n9 r9; (exact r9.2.elim))))))
abbrev Apart (add news : List (Addr × Obj)) : Prop := ∀ p ∈ news, ∀ q ∈ add, @Ne Nat p.1 q.1
theorem apart_one {d : Addr} {o : Obj} {news : List (Addr × Obj)} (h : ∀ p ∈ news, @Ne Nat p.1 d) : Apart [(d, o)] news := fun p hp q hq => by
  rw [List.mem_singleton.mp hq]; exact h p hp
local macro_rules | `(tactic| walk_at "pyIter bytes") => `(tactic| (k_here; k_dflt (refine' comp_bytes ?hh ?hb ?F ?N ?hkd ?hx ?hd ?_; (case hh => exact rfl); (case F => k_asm); (case N => k_asm); (case hb => (rw [← KBw.ints_length]; assumption)); (case hkd => exact rfl); (case hx => exact rfl); (case hd => decide)); intro D' ws' n' h' tk' F' N' hD' hI'))
set_option maxHeartbeats 8000000 in
theorem c_row (w : World) (mean : ExcName → Option Value) (mg mb : Str → Option Value) (news : List (Addr × Obj)) (b : Array UInt8) (tb : Tok) (hb8 : (KBw.bInts b).length ≤ 8) :
    Does 10 w mean mg mb 201 [.bytes b tb] [] news (fun r news' => ∃ add, news' = add ++ news ∧ Apart add news ∧ DatIn add r (.list ((KBw.bInts b).map Dat.int))) (fun nx => nx = news ∧ False) := by
    intro dp un cn cs a ccd cl outer A₀ base h₀ L m s Q E B F K N T hk hdp hun hret hraise
    refine wpAny_call ?_
    walk_at "my enter"
    k_steps
    exact hret.use (by assumption) (by assumption) ⟨[_], rfl, apart_one (by assumption), DatIn.list (.head _) (dat_ints (by assumption))⟩
end
/-- the lines that were read for the part above are not those of the next one -/
theorem pause_C8 : True ∧ True := by first | (walk1; fail) | exact ⟨trivial, trivial⟩
section
theorem fill_C9 : (PySem.Challenge.rw_fe0333_01, hd.heap_39) = (PySem.Challenge.rw_fe0333_01, hd.heap_39) := by k_fill; rfl
local macro_rules | `(tactic| walk_at "binaryOp Pow int int") => `(tactic| (k_here; (with_reducible refine pow_int_small ?kb1 ?kb2 ?kb3 ?_); (case kb1 => first | decide | exact fmod_nn _ (by decide)); (case kb2 => first | decide | exact fmod_le6 _ (by decide) (by decide)); (case kb3 => decide)))
local macro_rules | `(tactic| walk_at "getMethod ref") => `(tactic| (k_here; (with_reducible show wpAny _ _ (getMethod (Value.ref 57) (Str.ofString "keys") _) _ _ _); refine keys_get (keyed57 (by k_asm)) (by k_asm) ?_))
local macro_rules | `(tactic| walk_at "getMethod ref") => `(tactic| (k_here; (with_reducible show wpAny _ _ (getMethod (Value.ref 58) (Str.ofString "keys") _) _ _ _); refine keys_get (keyed58 (by k_asm)) (by k_asm) ?_))
local macro_rules | `(tactic| walk_at "call builtin:dict.keys") => `(tactic| (k_here; (with_reducible show wpAny _ _ (call (Value.builtin "dict.keys") [Value.ref _]) _ _ _); (first | (refine keys_call (keyed57 (by k_asm)) (by k_asm) (by k_asm) ?_) | (refine keys_call (keyed58 (by k_asm)) (by k_asm) (by k_asm) ?_)); intro V' h' F' N' l1; (try k_lt l1)))
local macro_rules | `(tactic| walk_at "call type:list") => `(tactic| (k_here; (with_reducible show wpAny _ _ (call (Value.type _) [Value.ref _]) _ _ _); (first | (refine keys_list (keyed57 (by k_asm)) rfl (by k_asm) (by k_asm) (by k_mem) ?_) | (refine keys_list (keyed58 (by k_asm)) rfl (by k_asm) (by k_asm) (by k_mem) ?_)); intro B' c' h' tk' t1 t2 t3 t4 t5 t6 t7 t8 F' N' l1; (try k_lt l1)))
local macro_rules | `(tactic| walk_at "binaryOp Mod str ref") => `(tactic| (k_here; (with_reducible show wpAny _ _ (binaryOp Operator.Mod (Value.str (Str.ofString "address_format must be an integer selected from : %s ") _) (Value.ref _)) _ _ _); refine' text1 ?a1 ?a2 ?a3 ?g ?u ?_; (case a1 => k_asm); (case a2 => k_asm); (case a3 => k_mem); (case g => (first | (simp only [guards_deeper, guards_make]; done) | ((try simp only [guards_deeper, guards_make]); rfl))); (case u => (have hc9 := cLine_is; (try simp only [units_make, units_deeper, units_in1]); (try dsimp only [ktrTop]); omega)); intro t' h' tk' F' N'))
local macro_rules | `(tactic| walk_at "binaryOp Mod str ref") => `(tactic| (k_here; (with_reducible show wpAny _ _ (binaryOp Operator.Mod (Value.str (Str.ofString "memorysize_format must be an integer selected from : %s") _) (Value.ref _)) _ _ _); refine' text2 ?a1 ?a2 ?a3 ?g ?u ?_; (case a1 => k_asm); (case a2 => k_asm); (case a3 => k_mem); (case g => (first | (simp only [guards_deeper, guards_make]; done) | ((try simp only [guards_deeper, guards_make]); rfl))); (case u => (have hc9 := cLine_is; (try simp only [units_make, units_deeper, units_in1]); (try dsimp only [ktrTop]); omega)); intro t' h' tk' F' N'))
local macro_rules | `(tactic| walk_at "my enter") => `(tactic| k_dflt (refine' code_def ?k1 ?k2 ?k3 ?k4 ?k5 ?kA ?kF ?kK ?k6 ?k7 ?k8 ?k9 ?kB ?_ ?c2 ?c3 ?c4 ?c5; (case kA => exact rfl); (case kF => exact rfl); (case kK => first | assumption | exact rfl); (case k1 => k_asm); (case k2 => k_asm); (case k3 => k_asm); (case k4 => k_asm); (case k5 => k_asm); (case k6 => k_is); (case k7 => k_is); (case k8 => ((try simp only [depth_make, depth_deeper, depth_in1]); (try dsimp only [ktrTop]); omega)); (case k9 => first | exact BindsTo.of_eq rfl | exact binds_K (by k_in) rfl (by k_is) rfl rfl rfl); (case c5 => decide); (case kB => exact locs rfl); (case c2 => exact rfl); (case c3 => exact rfl); (case c4 => exact rfl); k_whole; intro g' L' h' FG' F' N' B' X' T'; (try dsimp only); (try k_fold)))
local macro_rules | `(tactic| walk_at "my make") => `(tactic| (k_dflt (refine' call_cls ?k1 ?k2 ?k3 ?k4 ?k5 ?k6 ?_; (case k1 => k_asm); (case k2 => k_asm); (case k3 => k_asm); (case k4 => k_is); (case k5 => k_is); (case k6 => k_is); k_whole; intro x' d' h' F' N' l1 l2; (try k_lt l1); (try k_lt2 l2); (try k_sweep)); walk_at "my enter"))
local macro_rules | `(tactic| walk_at "my room") => `(tactic| ((try simp only [depth_make, depth_deeper, depth_in1, units_make, units_deeper, units_in1]); (try dsimp only [ktrTop]); omega))
local macro_rules | `(tactic| walk_at "leaving ref") => `(tactic| (k_here; first | (refine' leave_raiseS ?k1 ?k0 ?k2 ?k3 ?_; (case k0 => first | assumption | exact Heap.MadeExc.of (by assumption)); (case k2 => assumption); (case k1 => assumption); (case k3 => k_asm); k_whole; intro h' t' S' R' U'; (try dsimp only at S' R' U' ⊢)) | (refine' leave_onS ?k1 ?k2 ?k3 ?k4 ?_; (case k3 => assumption); (case k2 => assumption); (case k1 => assumption); (case k4 => assumption); k_whole; intro h' S' R' U'; (try dsimp only at S' R' U' ⊢))))
local macro_rules | `(tactic| walk_at "my sub") => `(tactic| ((repeat' (refine List.forall_mem_cons.mpr ⟨by k_mem, ?_⟩)); (intro p hp; repeat (first | exact hp | apply List.Mem.tail))))
local macro_rules | `(tactic| walk_at "my no") => `(tactic| first | assumption | exact and_no1 (by assumption) | exact and_no2 (by assumption) | exact and_no1 (no8 (by assumption)) | exact and_no2 (no8 (by assumption)))
local macro_rules | `(tactic| walk_at "my raise") => `(tactic| ((try dsimp only [InitBack]); refine' Rai.use2 ?H ?C ?U ?F ?R ?S; (case H => assumption); (case C => walk_at "my no"); (case U => assumption); (case F => assumption); (case R => assumption); (case S => walk_at "my sub")))
inductive Ins (add : List (Addr × Obj)) : List (Addr × Obj) → List (Addr × Obj) → Prop
  | last {tl : List (Addr × Obj)} : Ins add tl (add ++ tl)
  | cons {p : Addr × Obj} {l l' : List (Addr × Obj)} : Ins add l l' → Ins add (p :: l) (p :: l')
theorem lt63 {v : Int} (h : v < 2 ^ Int.toNat 63) : v < 2 ^ 63 := h
theorem nlt63 {v : Int} (h : ¬ v < 2 ^ Int.toNat 63) : ¬ v < 2 ^ 63 := h
theorem Ins.sub {add l l' : List (Addr × Obj)} (h : Ins add l l') : ∀ p ∈ l', p ∈ add ++ l := by
  induction h with
  | last => exact fun p hp => hp
  | cons _ ih =>
    intro p hp
    rcases List.mem_cons.mp hp with e | hp
    · exact List.mem_append.mpr (.inr (e ▸ .head _))
    · rcases List.mem_append.mp (ih p hp) with h | h
      · exact List.mem_append.mpr (.inl h)
      · exact List.mem_append.mpr (.inr (.tail _ h))
theorem ins_news {h₀ h : Heap} {L : Addr} {add l l' : List (Addr × Obj)} (N : News h₀ L h (add ++ l)) (i : Ins add l l') : News h₀ L h l' := fun p hp => N p (i.sub p hp)
local macro_rules | `(tactic| walk_at "my ins") => `(tactic| ((repeat apply Ins.cons); apply Ins.last))
/-- a call that only makes new data -/
abbrev Makes (lv : Nat) (w : World) (mean : ExcName → Option Value) (mg mb : Str → Option Value) (f : Addr) (vs : List Value) (news : List (Addr × Obj)) (D : Dat) : Prop :=
  Does lv w mean mg mb f vs [] news (fun r news' => ∃ add, news' = add ++ news ∧ Apart add news ∧ DatIn add r D) (fun nx => nx = news ∧ False)
theorem Makes.heads {lv : Nat} {w : World} {mean : ExcName → Option Value} {mg mb : Str → Option Value} {f : Addr} {vs : List Value} {pre news : List (Addr × Obj)} {D : Dat} (hp : ∀ p ∈ pre, p ∈ news) (M : Makes lv w mean mg mb f vs (pre ++ news) D) : Makes lv w mean mg mb f vs news D := by
  intro dp un cn cs a ccd cl outer A₀ base h₀ L m s Q E B F K N T hk hdp hun hret hraise
  have hs : ∀ p ∈ pre ++ news, p ∈ news := fun p h => (List.mem_append.mp h).elim (hp p) id
  refine M dp un cn cs a ccd cl outer A₀ base h₀ L m s Q E B F K (fun p h => N p (hs p h)) T hk hdp hun ?_ (fun nx hx => hx.2.elim)
  rintro v news' h' tk' F' N' ⟨add, rfl, ha, hD⟩
  exact hret.use F' (fun p h => N' p ((List.mem_append.mp h).elim (fun h => List.mem_append.mpr (.inl h)) fun h => List.mem_append.mpr (.inr (List.mem_append.mpr (.inr h))))) ⟨add, rfl, fun p h q hq => ha p (List.mem_append.mpr (.inr h)) q hq, hD⟩
theorem apart_lt {add news : List (Addr × Obj)} (h : ∀ p ∈ news, ∀ q ∈ add, @LT.lt Nat _ p.1 q.1) : Apart add news := fun p hp q hq => Nat.ne_of_lt (h p hp q hq)
theorem digs_length : ∀ (k : Nat) (n : Int), (digs k n).length = k
  | 0, _ => rfl
  | k + 1, n => by rw [digs, List.length_append, digs_length k, List.length_singleton]
theorem bytes8 {b : Array UInt8} {k v : Int} (h : KBw.bInts b = digs k.toNat v) (hk : k ≤ 8) : (KBw.bInts b).length ≤ 8 := by
  rw [h, digs_length]; omega
theorem close_due {h₀ h : Heap} {L l' : Addr} {m : Str → Option Value} {s : Shared} {tk : Nat} {Q : Value → Shared → Prop} {pre tl X : List (Addr × Obj)} {o : Obj} {D : Dat}
    (hret : Bck h₀ L m s Q (fun r news' => ∃ add, news' = add ++ (pre ++ tl) ∧ Apart add (pre ++ tl) ∧ DatIn add r D)) (F : Fr h₀ L h m) (N : News h₀ L h ((l', o) :: (pre ++ (X ++ tl)))) (l1 : AllLt l' (pre ++ tl)) (hX : Apart X (pre ++ tl)) (hD : DatIn ((l', o) :: X) (.ref l') D) :
    Q (.ref l') { s with heap := h, toks := tk } := by
  refine hret.use F (news' := ((l', o) :: X) ++ (pre ++ tl)) (fun p hp => N p ?_) ⟨(l', o) :: X, rfl, fun p hp q hq => ?_, hD⟩
  · rcases List.mem_append.mp hp with hp | hp
    · rcases List.mem_cons.mp hp with e | hp
      · rw [e]; exact .head _
      · exact .tail _ (List.mem_append.mpr (.inr (List.mem_append.mpr (.inl hp))))
    · rcases List.mem_append.mp hp with hp | hp
      · exact .tail _ (List.mem_append.mpr (.inl hp))
      · exact .tail _ (List.mem_append.mpr (.inr (List.mem_append.mpr (.inr hp))))
  · rcases List.mem_cons.mp hq with e | hq
    · rw [e]; exact Nat.ne_of_lt (allLt_mem l1 p hp)
    · exact hX p hp q hq
theorem apart_nil {l : List (Addr × Obj)} : Apart [] l := fun _ _ _ h => (nomatch h)
theorem apart_tl {A l : List (Addr × Obj)} {p : Addr × Obj} (h : Apart A (p :: l)) : Apart A l := fun q hq => h q (.tail _ hq)
theorem apart_two {A Bx pre tl : List (Addr × Obj)} {p p' : Addr × Obj} (ha : Apart A (p :: (pre ++ tl))) (hb : Apart Bx (p' :: (pre ++ (A ++ tl)))) : Apart (Bx ++ A) (pre ++ tl) := fun q hq r hr => by
  rcases List.mem_append.mp hr with hr | hr
  · refine hb q (.tail _ ?_) r hr
    rcases List.mem_append.mp hq with hq | hq
    · exact List.mem_append.mpr (.inl hq)
    · exact List.mem_append.mpr (.inr (List.mem_append.mpr (.inr hq)))
  · exact ha q (.tail _ hq) r hr
theorem app3 {α : Type} {p : α} {a b c d : List α} : p :: (a ++ (b ++ (c ++ d))) = p :: (a ++ ((b ++ c) ++ d)) := by rw [List.append_assoc]
theorem news_as {h₀ h : Heap} {L : Addr} {l l' : List (Addr × Obj)} (N : News h₀ L h l) (e : l = l') : News h₀ L h l' := e ▸ N
theorem dat_tl {news : List (Addr × Obj)} {p : Addr × Obj} {v : Value} {d : Dat} (h : DatIn news v d) : DatIn (p :: news) v d := h.mono fun _ hq => .tail _ hq
theorem dat_lf {a b : List (Addr × Obj)} {v : Value} {d : Dat} (h : DatIn a v d) : DatIn (a ++ b) v d := h.mono fun _ hq => List.mem_append.mpr (.inl hq)
theorem dat_rt {a b : List (Addr × Obj)} {v : Value} {d : Dat} (h : DatIn b v d) : DatIn (a ++ b) v d := h.mono fun _ hq => List.mem_append.mpr (.inr hq)
theorem all_app {d : Nat} {A tl : List (Addr × Obj)} (h1 : ∀ p ∈ A, @Ne Nat p.1 d) (h2 : ∀ p ∈ tl, @Ne Nat p.1 d) : ∀ p ∈ A ++ tl, @Ne Nat p.1 d := fun p hp => (List.mem_append.mp hp).elim (h1 p) (h2 p)
theorem all_apart {d : Addr} {o : Obj} {A l : List (Addr × Obj)} (h : Apart A l) (hm : (d, o) ∈ l) : ∀ p ∈ A, @Ne Nat p.1 d := fun q hq => Ne.symm (h (d, o) hm q hq)
local macro_rules | `(tactic| k_all) => `(tactic| (refine all_app ?ka9 ?kb9; (case ka9 => exact all_apart (by assumption) (by k_mem)); (case kb9 => k_all)))
local macro_rules | `(tactic| walk_at "call ref") => `(tactic| (k_here; (with_reducible show wpAny _ _ (call (Value.ref 196) [Value.int _ _, Value.int _ _] _) _ _ _); k_dflt (refine' c_digits _ _ _ _ _ _ _ _ _ ?hn ?h0 ?h8 _ _ _ _ _ _ _ _ _ _ _ _ _ _ _ _ ?k1 ?k2 ?k3 ?k4 ?k5 ?kK ?kd ?ku ?_ ?_; (case hn => assumption); (case h0 => assumption); (case h8 => assumption); (case k1 => k_asm); (case k2 => k_asm); (case k3 => k_asm); (case k4 => k_asm); (case k5 => k_asm); (case kK => first | exact rfl | assumption); (case kd => walk_at "my room"); (case ku => walk_at "my room"); (focus (unfold Bck; intro v9 n9 h' tk' F' N' r9; obtain ⟨add9, e9, ha9, hD9⟩ := r9; subst e9; (have ha8 := apart_lt ha9); clear ha9; (have N2 := ins_news N' (by walk_at "my ins")); clear N'; (try dsimp only); (try k_fold))); rotate_left; (focus (unfold Rai; intro n9 r9; (exact r9.2.elim))))))
local macro_rules | `(tactic| walk_at "call ref") => `(tactic| (k_here; (with_reducible show wpAny _ _ (call (Value.ref 201) [Value.bytes _ _] _) _ _ _); k_dflt (refine' c_row _ _ _ _ _ _ _ ?h8 _ _ _ _ _ _ _ _ _ _ _ _ _ _ _ _ ?k1 ?k2 ?k3 ?k4 ?k5 ?kK ?kd ?ku ?_ ?_; (case h8 => assumption); (case k1 => k_asm); (case k2 => k_asm); (case k3 => k_asm); (case k4 => k_asm); (case k5 => k_asm); (case kK => first | exact rfl | assumption); (case kd => walk_at "my room"); (case ku => walk_at "my room"); (focus (unfold Bck; intro v9 n9 h' tk' F' N' r9; obtain ⟨add9, e9, ha9, hD9⟩ := r9; subst e9; (have N2 := ins_news N' (by walk_at "my ins")); clear N'; (try dsimp only); (try k_fold))); rotate_left; (focus (unfold Rai; intro n9 r9; (exact r9.2.elim))))))
local macro_rules | `(tactic| walk_at "call ref") => `(tactic| (k_here; (with_reducible show wpAny _ _ (call (Value.ref 72) [Value.ref _] _) _ _ _); k_dflt (refine' c_byte _ _ _ _ _ _ _ _ _ _ _ _ _ ?m1 ?m2 ?ha ?hm _ _ _ _ _ _ _ _ _ _ _ _ _ _ _ _ ?k1 ?k2 ?k3 ?k4 ?k5 ?kK ?kd ?ku ?_ ?_; (case m1 => k_mem); (case m2 => k_mem); (case ha => assumption); (case hm => assumption); (case k1 => k_asm); (case k2 => k_asm); (case k3 => k_asm); (case k4 => k_asm); (case k5 => k_asm); (case kK => first | exact rfl | assumption); (case kd => walk_at "my room"); (case ku => walk_at "my room"); (focus (unfold Bck; intro v9 n9 h' tk' F' N' r9; obtain ⟨e9, t9, e8⟩ := r9; subst e9; subst e8; (try dsimp only); (try k_fold))); rotate_left; (focus (unfold Rai; intro n9 r9; (exact r9.2.elim))))))
local macro_rules | `(tactic| walk_at "call ref") => `(tactic| (k_here; (with_reducible show wpAny _ _ (call (Value.ref 130) [Value.ref _] _) _ _ _); k_dflt (refine' c_abytes _ _ _ _ _ _ _ _ _ _ _ _ _ _ _ _ _ _ _ _ _ _ _ _ _ _ ?m1 ?m2 ?m3 ?m4 ?ha ?h0 ?h6 _ _ _ _ _ _ _ _ _ _ _ _ _ _ _ _ ?k1 ?k2 ?k3 ?k4 ?k5 ?kK ?kd ?ku ?_ ?_; (case m1 => k_mem); (case m2 => k_mem); (case m3 => k_mem); (case m4 => k_mem); (case ha => assumption); (case h0 => assumption); (case h6 => assumption); (case k1 => k_asm); (case k2 => k_asm); (case k3 => k_asm); (case k4 => k_asm); (case k5 => k_asm); (case kK => first | exact rfl | assumption); (case kd => walk_at "my room"); (case ku => walk_at "my room"); (focus (unfold Bck; intro v9 n9 h' tk' F' N' r9; obtain ⟨e9, b9, t9, e8, hI9⟩ := r9; subst e9; subst e8; have hl9 := bytes8 hI9 (by assumption); (try dsimp only); (try k_fold))); rotate_left; (focus (unfold Rai; intro n9 r9; (exact r9.2.elim))))))
local macro_rules | `(tactic| walk_at "call ref") => `(tactic| (k_here; (with_reducible show wpAny _ _ (call (Value.ref 137) [Value.ref _] _) _ _ _); k_dflt (refine' c_mbytes _ _ _ _ _ _ _ _ _ _ _ _ _ _ _ _ _ _ _ _ _ _ _ _ _ _ ?m1 ?m2 ?m3 ?m4 ?ha ?h0 ?h6 _ _ _ _ _ _ _ _ _ _ _ _ _ _ _ _ ?k1 ?k2 ?k3 ?k4 ?k5 ?kK ?kd ?ku ?_ ?_; (case m1 => k_mem); (case m2 => k_mem); (case m3 => k_mem); (case m4 => k_mem); (case ha => assumption); (case h0 => assumption); (case h6 => assumption); (case k1 => k_asm); (case k2 => k_asm); (case k3 => k_asm); (case k4 => k_asm); (case k5 => k_asm); (case kK => first | exact rfl | assumption); (case kd => walk_at "my room"); (case ku => walk_at "my room"); (focus (unfold Bck; intro v9 n9 h' tk' F' N' r9; obtain ⟨e9, b9, t9, e8, hI9⟩ := r9; subst e9; subst e8; have hl9 := bytes8 hI9 (by assumption); (try dsimp only); (try k_fold))); rotate_left; (focus (unfold Rai; intro n9 r9; (exact r9.2.elim))))))
def cD (c : Option Int) : Dat := match c with | some f => .int f | none => .none
theorem cD_in {news : List (Addr × Obj)} {c : Option Int} {t : Tok} : DatIn news (cellV c t) (cD c) := by
  cases c with
  | none => exact .none
  | some f => exact .int f t
def rowD (va vs : Int) (c0 c1 : Option Int) (w0 w1 : Int) : List Dat :=
  [.int va, .int vs, cD c0, cD c1, .int (8 * w0), .int (8 * w1), .int (16 * w1 + w0), if va < 2 ^ 63 then .list ((digs w0.toNat va).map Dat.int) else .none, if vs < 2 ^ 63 then .list ((digs w1.toNat vs).map Dat.int) else .none]
local macro_rules | `(tactic| walk_at "call builtin:list.append nil") => `(tactic| ((with_reducible show wpAny _ _ (call (Value.builtin "list.append") (_ ++ _) _) _ _ _); (first | simp only [List.cons_append, List.nil_append] | dsimp only [HAppend.hAppend, Append.append, List.append])))
set_option maxHeartbeats 8000000 in
theorem c_due0 (w : World) (mean : ExcName → Option Value) (mg mb : Str → Option Value) (tl : List (Addr × Obj)) (lc lw : Addr) (nc nw : Nat) (c0 c1 : Option Int) (w0 w1 va vs : Int) (t0 t1 u0 u1 ta ts : Tok)
    (hva : 0 ≤ va) (hvs : 0 ≤ vs) (hw00 : 0 ≤ w0) (hw08 : w0 ≤ 8) (hw10 : 0 ≤ w1) (hw18 : w1 ≤ 8) :
    Makes 20 w mean mg mb 229 [.ref lc, .ref lw, .int va ta, .int vs ts] ([(lc, listOf #[cellV c0 t0, cellV c1 t1] nc), (lw, listOf #[.int w0 u0, .int w1 u1] nw)] ++ tl) (.list (rowD va vs c0 c1 w0 w1)) := by
  intro dp un cn cs a ccd cl outer A₀ base h₀ L m s Q E B F K N T hk hdp hun hret hraise
  unfold rowD at hret
  simp only [List.cons_append, List.nil_append] at N
  refine wpAny_call ?_
  walk_at "my enter"
  k_steps
  · rw [if_pos (lt63 (by assumption)), if_pos (lt63 (by assumption))] at hret
    refine close_due (pre := [_, _]) (X := _ ++ _) hret (by assumption) (news_as (by assumption) app3) (by assumption) (apart_two (pre := [_, _]) (by assumption) (by assumption)) (.list (vs := [_, _, _, _, _, _, _, _, _]) (.head _) ?_)
    exact .cons (.int _ _) (.cons (.int _ _) (.cons cD_in (.cons cD_in (.cons (.int _ _) (.cons (.int _ _) (.cons (.int _ _) (.cons (dat_tl (dat_rt (by assumption))) (.cons (dat_tl (dat_lf (by assumption))) .nil))))))))
  · rw [if_pos (lt63 (by assumption)), if_neg (nlt63 (by assumption))] at hret
    refine close_due (pre := [_, _]) hret (by assumption) (by assumption) (by assumption) (apart_tl (by assumption)) (.list (vs := [_, _, _, _, _, _, _, _, _]) (.head _) ?_)
    exact .cons (.int _ _) (.cons (.int _ _) (.cons cD_in (.cons cD_in (.cons (.int _ _) (.cons (.int _ _) (.cons (.int _ _) (.cons (dat_tl (by assumption)) (.cons .none .nil))))))))
  · rw [if_neg (nlt63 (by assumption)), if_pos (lt63 (by assumption))] at hret
    refine close_due (pre := [_, _]) hret (by assumption) (by assumption) (by assumption) (apart_tl (by assumption)) (.list (vs := [_, _, _, _, _, _, _, _, _]) (.head _) ?_)
    exact .cons (.int _ _) (.cons (.int _ _) (.cons cD_in (.cons cD_in (.cons (.int _ _) (.cons (.int _ _) (.cons (.int _ _) (.cons .none (.cons (dat_tl (by assumption)) .nil))))))))
  · rw [if_neg (nlt63 (by assumption)), if_neg (nlt63 (by assumption))] at hret
    refine close_due (pre := [_, _]) (X := []) hret (by assumption) (by assumption) (by assumption) apart_nil (.list (vs := [_, _, _, _, _, _, _, _, _]) (.head _) ?_)
    exact .cons (.int _ _) (.cons (.int _ _) (.cons cD_in (.cons cD_in (.cons (.int _ _) (.cons (.int _ _) (.cons (.int _ _) (.cons .none (.cons .none .nil))))))))
theorem c_due (w : World) (mean : ExcName → Option Value) (mg mb : Str → Option Value) (news : List (Addr × Obj)) (lc lw : Addr) (nc nw : Nat) (c0 c1 : Option Int) (w0 w1 va vs : Int) (t0 t1 u0 u1 ta ts : Tok)
    (hva : 0 ≤ va) (hvs : 0 ≤ vs) (hw00 : 0 ≤ w0) (hw08 : w0 ≤ 8) (hw10 : 0 ≤ w1) (hw18 : w1 ≤ 8) (m1 : (lc, listOf #[cellV c0 t0, cellV c1 t1] nc) ∈ news) (m2 : (lw, listOf #[.int w0 u0, .int w1 u1] nw) ∈ news) :
    Makes 20 w mean mg mb 229 [.ref lc, .ref lw, .int va ta, .int vs ts] news (.list (rowD va vs c0 c1 w0 w1)) :=
  Makes.heads (pre := [_, _]) (List.forall_mem_cons.mpr ⟨m1, List.forall_mem_cons.mpr ⟨m2, List.forall_mem_nil _⟩⟩) (c_due0 w mean mg mb news lc lw nc nw c0 c1 w0 w1 va vs t0 t1 u0 u1 ta ts hva hvs hw00 hw08 hw10 hw18)
end
/-- the lines that were read for the part above are not those of the next one -/
theorem pause_C9 : True ∧ True := by first | (walk1; fail) | exact ⟨trivial, trivial⟩
section
theorem fill_C10 : (PySem.Challenge.rw_fe0333_01, hd.heap_39) = (PySem.Challenge.rw_fe0333_01, hd.heap_39) := by k_fill; rfl
local macro_rules | `(tactic| walk_at "binaryOp Pow int int") => `(tactic| (k_here; (with_reducible refine pow_int_small ?kb1 ?kb2 ?kb3 ?_); (case kb1 => first | decide | exact fmod_nn _ (by decide)); (case kb2 => first | decide | exact fmod_le6 _ (by decide) (by decide)); (case kb3 => decide)))
local macro_rules | `(tactic| walk_at "getMethod ref") => `(tactic| (k_here; (with_reducible show wpAny _ _ (getMethod (Value.ref 57) (Str.ofString "keys") _) _ _ _); refine keys_get (keyed57 (by k_asm)) (by k_asm) ?_))
local macro_rules | `(tactic| walk_at "getMethod ref") => `(tactic| (k_here; (with_reducible show wpAny _ _ (getMethod (Value.ref 58) (Str.ofString "keys") _) _ _ _); refine keys_get (keyed58 (by k_asm)) (by k_asm) ?_))
local macro_rules | `(tactic| walk_at "call builtin:dict.keys") => `(tactic| (k_here; (with_reducible show wpAny _ _ (call (Value.builtin "dict.keys") [Value.ref _]) _ _ _); (first | (refine keys_call (keyed57 (by k_asm)) (by k_asm) (by k_asm) ?_) | (refine keys_call (keyed58 (by k_asm)) (by k_asm) (by k_asm) ?_)); intro V' h' F' N' l1; (try k_lt l1)))
local macro_rules | `(tactic| walk_at "call type:list") => `(tactic| (k_here; (with_reducible show wpAny _ _ (call (Value.type _) [Value.ref _]) _ _ _); (first | (refine keys_list (keyed57 (by k_asm)) rfl (by k_asm) (by k_asm) (by k_mem) ?_) | (refine keys_list (keyed58 (by k_asm)) rfl (by k_asm) (by k_asm) (by k_mem) ?_)); intro B' c' h' tk' t1 t2 t3 t4 t5 t6 t7 t8 F' N' l1; (try k_lt l1)))
local macro_rules | `(tactic| walk_at "binaryOp Mod str ref") => `(tactic| (k_here; (with_reducible show wpAny _ _ (binaryOp Operator.Mod (Value.str (Str.ofString "address_format must be an integer selected from : %s ") _) (Value.ref _)) _ _ _); refine' text1 ?a1 ?a2 ?a3 ?g ?u ?_; (case a1 => k_asm); (case a2 => k_asm); (case a3 => k_mem); (case g => (first | (simp only [guards_deeper, guards_make]; done) | ((try simp only [guards_deeper, guards_make]); rfl))); (case u => (have hc9 := cLine_is; (try simp only [units_make, units_deeper, units_in1]); (try dsimp only [ktrTop]); omega)); intro t' h' tk' F' N'))
local macro_rules | `(tactic| walk_at "binaryOp Mod str ref") => `(tactic| (k_here; (with_reducible show wpAny _ _ (binaryOp Operator.Mod (Value.str (Str.ofString "memorysize_format must be an integer selected from : %s") _) (Value.ref _)) _ _ _); refine' text2 ?a1 ?a2 ?a3 ?g ?u ?_; (case a1 => k_asm); (case a2 => k_asm); (case a3 => k_mem); (case g => (first | (simp only [guards_deeper, guards_make]; done) | ((try simp only [guards_deeper, guards_make]); rfl))); (case u => (have hc9 := cLine_is; (try simp only [units_make, units_deeper, units_in1]); (try dsimp only [ktrTop]); omega)); intro t' h' tk' F' N'))
local macro_rules | `(tactic| walk_at "my enter") => `(tactic| k_dflt (refine' code_def ?k1 ?k2 ?k3 ?k4 ?k5 ?kA ?kF ?kK ?k6 ?k7 ?k8 ?k9 ?kB ?_ ?c2 ?c3 ?c4 ?c5; (case kA => exact rfl); (case kF => exact rfl); (case kK => first | assumption | exact rfl); (case k1 => k_asm); (case k2 => k_asm); (case k3 => k_asm); (case k4 => k_asm); (case k5 => k_asm); (case k6 => k_is); (case k7 => k_is); (case k8 => ((try simp only [depth_make, depth_deeper, depth_in1]); (try dsimp only [ktrTop]); omega)); (case k9 => first | exact BindsTo.of_eq rfl | exact binds_K (by k_in) rfl (by k_is) rfl rfl rfl); (case c5 => decide); (case kB => exact locs rfl); (case c2 => exact rfl); (case c3 => exact rfl); (case c4 => exact rfl); k_whole; intro g' L' h' FG' F' N' B' X' T'; (try dsimp only); (try k_fold)))
local macro_rules | `(tactic| walk_at "my make") => `(tactic| (k_dflt (refine' call_cls ?k1 ?k2 ?k3 ?k4 ?k5 ?k6 ?_; (case k1 => k_asm); (case k2 => k_asm); (case k3 => k_asm); (case k4 => k_is); (case k5 => k_is); (case k6 => k_is); k_whole; intro x' d' h' F' N' l1 l2; (try k_lt l1); (try k_lt2 l2); (try k_sweep)); walk_at "my enter"))
local macro_rules | `(tactic| walk_at "my room") => `(tactic| ((try simp only [depth_make, depth_deeper, depth_in1, units_make, units_deeper, units_in1]); (try dsimp only [ktrTop]); omega))
local macro_rules | `(tactic| walk_at "leaving ref") => `(tactic| (k_here; first | (refine' leave_raiseS ?k1 ?k0 ?k2 ?k3 ?_; (case k0 => first | assumption | exact Heap.MadeExc.of (by assumption)); (case k2 => assumption); (case k1 => assumption); (case k3 => k_asm); k_whole; intro h' t' S' R' U'; (try dsimp only at S' R' U' ⊢)) | (refine' leave_onS ?k1 ?k2 ?k3 ?k4 ?_; (case k3 => assumption); (case k2 => assumption); (case k1 => assumption); (case k4 => assumption); k_whole; intro h' S' R' U'; (try dsimp only at S' R' U' ⊢))))
local macro_rules | `(tactic| walk_at "my sub") => `(tactic| ((repeat' (refine List.forall_mem_cons.mpr ⟨by k_mem, ?_⟩)); (intro p hp; repeat (first | exact hp | apply List.Mem.tail))))
local macro_rules | `(tactic| walk_at "my no") => `(tactic| first | assumption | exact and_no1 (by assumption) | exact and_no2 (by assumption) | exact and_no1 (no8 (by assumption)) | exact and_no2 (no8 (by assumption)))
local macro_rules | `(tactic| walk_at "my raise") => `(tactic| ((try dsimp only [InitBack]); refine' Rai.use2 ?H ?C ?U ?F ?R ?S; (case H => assumption); (case C => walk_at "my no"); (case U => assumption); (case F => assumption); (case R => assumption); (case S => walk_at "my sub")))
local macro_rules | `(tactic| walk_at "subscriptTail Attribute Name Attribute ref int") => `(tactic| (k_here; k_dflt (refine kba_turn (value' := PySem.Expr.Name (PySem.Str.ofString "_") ⟨0, 0, 0, 0⟩) (fun _ => rfl) ?_)))
local macro_rules | `(tactic| walk_at "subscriptTail Name Attribute ref int") => `(tactic| (k_here; (with_reducible show wpAny _ _ (subscriptTail _ _ (Value.ref _) (Value.int _ _)) _ _ _); k_dflt (refine' map_item ?k1 ?k2 ?k3 ?_; (case k1 => first | exact keyed57 (by k_asm) | exact keyed58 (by k_asm)); (case k2 => k_asm); (case k3 => k_asm); intro t')))
local macro_rules | `(tactic| walk_at "call builtin:_struct.pack") => `(tactic| (k_here; (with_reducible show wpAny _ _ (call (Value.builtin _) [Value.str _ _, Value.int _ _]) _ _ _); refine call_pack (by assumption) (by assumption) ?_; intro t'))
local macro_rules | `(tactic| walk_at "subscriptTail Name Slice bytes ref") => `(tactic| (k_here; (with_reducible show wpAny _ _ (subscriptTail _ (Expr.Slice _ _ none _) (Value.bytes (packB _) _) (Value.ref _)) _ _ _); (with_reducible rename Fr _ _ _ _ => F'); (with_reducible rename News _ _ _ _ => N'); (refine KBc.slice_K (s := ⟨_, _, _, _, _⟩) F' N' rfl (by constructor) (by constructor) (by rw [KBw.ints_length, packB_size]; decide) ?_); intro h' t' tk' F' N' kbcK))
local macro_rules | `(tactic| walk_at "my ins") => `(tactic| ((repeat apply Ins.cons); apply Ins.last))
local macro_rules | `(tactic| k_all) => `(tactic| (refine all_app ?ka9 ?kb9; (case ka9 => exact all_apart (by assumption) (by k_mem)); (case kb9 => k_all)))
local macro_rules | `(tactic| walk_at "call ref") => `(tactic| (k_here; (with_reducible show wpAny _ _ (call (Value.ref 196) [Value.int _ _, Value.int _ _] _) _ _ _); k_dflt (refine' c_digits _ _ _ _ _ _ _ _ _ ?hn ?h0 ?h8 _ _ _ _ _ _ _ _ _ _ _ _ _ _ _ _ ?k1 ?k2 ?k3 ?k4 ?k5 ?kK ?kd ?ku ?_ ?_; (case k1 => k_asm); (case k2 => k_asm); (case k3 => k_asm); (case k4 => k_asm); (case k5 => k_asm); (case hn => assumption); (case h0 => assumption); (case h8 => assumption); (case kK => first | exact rfl | assumption); (case kd => walk_at "my room"); (case ku => walk_at "my room"); (focus (unfold Bck; intro v9 n9 h' tk' F' N' r9; obtain ⟨add9, e9, ha9, hD9⟩ := r9; subst e9; (have ha8 := apart_lt ha9); clear ha9; (have N2 := ins_news N' (by walk_at "my ins")); clear N'; (try dsimp only); (try k_fold))); rotate_left; (focus (unfold Rai; intro n9 r9; (exact r9.2.elim))))))
local macro_rules | `(tactic| walk_at "call ref") => `(tactic| (k_here; (with_reducible show wpAny _ _ (call (Value.ref 201) [Value.bytes _ _] _) _ _ _); k_dflt (refine' c_row _ _ _ _ _ _ _ ?h8 _ _ _ _ _ _ _ _ _ _ _ _ _ _ _ _ ?k1 ?k2 ?k3 ?k4 ?k5 ?kK ?kd ?ku ?_ ?_; (case k1 => k_asm); (case k2 => k_asm); (case k3 => k_asm); (case k4 => k_asm); (case k5 => k_asm); (case h8 => assumption); (case kK => first | exact rfl | assumption); (case kd => walk_at "my room"); (case ku => walk_at "my room"); (focus (unfold Bck; intro v9 n9 h' tk' F' N' r9; obtain ⟨add9, e9, ha9, hD9⟩ := r9; subst e9; (have N2 := ins_news N' (by walk_at "my ins")); clear N'; (try dsimp only); (try k_fold))); rotate_left; (focus (unfold Rai; intro n9 r9; (exact r9.2.elim))))))
local macro_rules | `(tactic| walk_at "call ref") => `(tactic| (k_here; (with_reducible show wpAny _ _ (call (Value.ref 72) _ _) _ _ _); k_dflt (refine' c_byte _ _ _ _ _ _ _ _ _ _ _ _ _ ?m1 ?m2 ?ha ?hm _ _ _ _ _ _ _ _ _ _ _ _ _ _ _ _ ?k1 ?k2 ?k3 ?k4 ?k5 ?kK ?kd ?ku ?_ ?_; (case k1 => k_asm); (case k2 => k_asm); (case k3 => k_asm); (case k4 => k_asm); (case k5 => k_asm); (case m1 => k_mem); (case m2 => k_mem); (case ha => assumption); (case hm => assumption); (case kK => first | exact rfl | assumption); (case kd => walk_at "my room"); (case ku => walk_at "my room"); (focus (unfold Bck; intro v9 n9 h' tk' F' N' r9; obtain ⟨e9, t9, e8⟩ := r9; subst e9; subst e8; (try dsimp only); (try k_fold))); rotate_left; (focus (unfold Rai; intro n9 r9; (exact r9.2.elim))))))
local macro_rules | `(tactic| walk_at "call ref") => `(tactic| (k_here; (with_reducible show wpAny _ _ (call (Value.ref 130) _ _) _ _ _); k_dflt (refine' c_abytes _ _ _ _ _ _ _ _ _ _ _ _ _ _ _ _ _ _ _ _ _ _ _ _ _ _ ?m1 ?m2 ?m3 ?m4 ?ha ?h0 ?h6 _ _ _ _ _ _ _ _ _ _ _ _ _ _ _ _ ?k1 ?k2 ?k3 ?k4 ?k5 ?kK ?kd ?ku ?_ ?_; (case k1 => k_asm); (case k2 => k_asm); (case k3 => k_asm); (case k4 => k_asm); (case k5 => k_asm); (case m1 => k_mem); (case m2 => k_mem); (case m3 => k_mem); (case m4 => k_mem); (case ha => assumption); (case h0 => assumption); (case h6 => assumption); (case kK => first | exact rfl | assumption); (case kd => walk_at "my room"); (case ku => walk_at "my room"); (focus (unfold Bck; intro v9 n9 h' tk' F' N' r9; obtain ⟨e9, b9, t9, e8, hI9⟩ := r9; subst e9; subst e8; have hl9 := bytes8 hI9 (by assumption); (try dsimp only); (try k_fold))); rotate_left; (focus (unfold Rai; intro n9 r9; (exact r9.2.elim))))))
local macro_rules | `(tactic| walk_at "call ref") => `(tactic| (k_here; (with_reducible show wpAny _ _ (call (Value.ref 137) _ _) _ _ _); k_dflt (refine' c_mbytes _ _ _ _ _ _ _ _ _ _ _ _ _ _ _ _ _ _ _ _ _ _ _ _ _ _ ?m1 ?m2 ?m3 ?m4 ?ha ?h0 ?h6 _ _ _ _ _ _ _ _ _ _ _ _ _ _ _ _ ?k1 ?k2 ?k3 ?k4 ?k5 ?kK ?kd ?ku ?_ ?_; (case k1 => k_asm); (case k2 => k_asm); (case k3 => k_asm); (case k4 => k_asm); (case k5 => k_asm); (case m1 => k_mem); (case m2 => k_mem); (case m3 => k_mem); (case m4 => k_mem); (case ha => assumption); (case h0 => assumption); (case h6 => assumption); (case kK => first | exact rfl | assumption); (case kd => walk_at "my room"); (case ku => walk_at "my room"); (focus (unfold Bck; intro v9 n9 h' tk' F' N' r9; obtain ⟨e9, b9, t9, e8, hI9⟩ := r9; subst e9; subst e8; have hl9 := bytes8 hI9 (by assumption); (try dsimp only); (try k_fold))); rotate_left; (focus (unfold Rai; intro n9 r9; (exact r9.2.elim))))))
theorem handed_cell {c : Option Int} {t : Tok} : handedIn (cellV c t) = true := by cases c <;> rfl
local macro_rules | `(tactic| k_handed) => `(tactic| exact handed_cell)
def rowT (va vs : Int) (c0 c1 : Option Int) (fa fm : Int) : List Dat :=
  [.int va, .int vs, cD c0, cD c1, .int fa, .int fm, .int (16 * (fm / 8) + fa / 8), if va < 2 ^ 63 then .list ((digs (fa / 8).toNat va).map Dat.int) else .none, if vs < 2 ^ 63 then .list ((digs (fm / 8).toNat vs).map Dat.int) else .none]
theorem rowT_eq {va vs fa fm : Int} {c0 c1 : Option Int} (ha : ok8 fa = true) (hm : ok8 fm = true) : rowT va vs c0 c1 fa fm = rowD va vs c0 c1 (fa / 8) (fm / 8) := by
  unfold rowT rowD
  have e1 : 8 * (fa / 8) = fa := by rcases ok8_cases ha with h | h | h | h | h | h | h | h <;> omega
  have e2 : 8 * (fm / 8) = fm := by rcases ok8_cases hm with h | h | h | h | h | h | h | h <;> omega
  rw [e1, e2]
theorem datI {news : List (Addr × Obj)} {v : Value} {ns ms : List Int} (h : DatIn news v (.list (ns.map Dat.int))) (e : ns = ms) : DatIn news v (.list (ms.map Dat.int)) := e ▸ h
local macro_rules | `(tactic| walk_at "call builtin:list.append nil") => `(tactic| ((with_reducible show wpAny _ _ (call (Value.builtin "list.append") (_ ++ _) _) _ _ _); (first | simp only [List.cons_append, List.nil_append] | dsimp only [HAppend.hAppend, Append.append, List.append])))
set_option maxHeartbeats 8000000 in
theorem c_told0 (w : World) (mean : ExcName → Option Value) (mg mb : Str → Option Value) (tl : List (Addr × Obj)) (x dx y dy : Addr) (c0 c1 : Option Int) (fa fm va vs : Int) (t0 t1 k1 k2 k3 k4 k5 tv1 tv2 ka kb tm' ta' ta ts : Tok)
    (hva : 0 ≤ va) (hvs : 0 ≤ vs) (ha : ok8 fa = true) (hm : ok8 fm = true) :
    Makes 20 w mean mg mb 222 [.ref x, .int va ta, .int vs ts] ([(x, instObj 157 dx), (dx, dML w va vs (cellV c0 t0) (cellV c1 t1) y k1 k2 k3 k4 k5 tv1 tv2), (y, instObj 82 dy), (dy, dAl w fm fa ka kb tm' ta')] ++ tl) (.list (rowT va vs c0 c1 fa fm)) := by
  have b1 := ok8_bnd ha
  have b2 := ok8_bnd hm
  have b3 : fa / 8 ≤ 8 := by omega
  have b4 : fm / 8 ≤ 8 := by omega
  intro dp un cn cs a ccd cl outer A₀ base h₀ L m s Q E B F K N T hk hdp hun hret hraise
  unfold rowT at hret
  simp only [List.cons_append, List.nil_append] at N
  refine wpAny_call ?_
  walk_at "my enter"
  k_steps
  · rw [if_pos (lt63 (by assumption)), if_pos (lt63 (by assumption))] at hret
    refine close_due (pre := [_, _, _, _]) (X := _ ++ _) hret (by assumption) (news_as (by assumption) app3) (by assumption) (apart_two (pre := [_, _, _, _]) (by assumption) (by assumption)) (.list (vs := [_, _, _, _, _, _, _, _, _]) (.head _) ?_)
    exact .cons (.int _ _) (.cons (.int _ _) (.cons cD_in (.cons cD_in (.cons (.int _ _) (.cons (.int _ _) (.cons (.int _ _) (.cons (dat_tl (dat_rt (datI (by assumption) (by assumption)))) (.cons (dat_tl (dat_lf (datI (by assumption) (by assumption)))) .nil))))))))
  · rw [if_pos (lt63 (by assumption)), if_neg (nlt63 (by assumption))] at hret
    refine close_due (pre := [_, _, _, _]) hret (by assumption) (by assumption) (by assumption) (apart_tl (by assumption)) (.list (vs := [_, _, _, _, _, _, _, _, _]) (.head _) ?_)
    exact .cons (.int _ _) (.cons (.int _ _) (.cons cD_in (.cons cD_in (.cons (.int _ _) (.cons (.int _ _) (.cons (.int _ _) (.cons (dat_tl (datI (by assumption) (by assumption))) (.cons .none .nil))))))))
  · rw [if_neg (nlt63 (by assumption)), if_pos (lt63 (by assumption))] at hret
    refine close_due (pre := [_, _, _, _]) hret (by assumption) (by assumption) (by assumption) (apart_tl (by assumption)) (.list (vs := [_, _, _, _, _, _, _, _, _]) (.head _) ?_)
    exact .cons (.int _ _) (.cons (.int _ _) (.cons cD_in (.cons cD_in (.cons (.int _ _) (.cons (.int _ _) (.cons (.int _ _) (.cons .none (.cons (dat_tl (datI (by assumption) (by assumption))) .nil))))))))
  · rw [if_neg (nlt63 (by assumption)), if_neg (nlt63 (by assumption))] at hret
    refine close_due (pre := [_, _, _, _]) (X := []) hret (by assumption) (by assumption) (by assumption) apart_nil (.list (vs := [_, _, _, _, _, _, _, _, _]) (.head _) ?_)
    exact .cons (.int _ _) (.cons (.int _ _) (.cons cD_in (.cons cD_in (.cons (.int _ _) (.cons (.int _ _) (.cons (.int _ _) (.cons .none (.cons .none .nil))))))))
theorem c_told (w : World) (mean : ExcName → Option Value) (mg mb : Str → Option Value) (news : List (Addr × Obj)) (x dx y dy : Addr) (c0 c1 : Option Int) (fa fm va vs : Int) (t0 t1 k1 k2 k3 k4 k5 tv1 tv2 ka kb tm' ta' ta ts : Tok)
    (hva : 0 ≤ va) (hvs : 0 ≤ vs) (ha : ok8 fa = true) (hm : ok8 fm = true) (m1 : (x, instObj 157 dx) ∈ news) (m2 : (dx, dML w va vs (cellV c0 t0) (cellV c1 t1) y k1 k2 k3 k4 k5 tv1 tv2) ∈ news) (m3 : (y, instObj 82 dy) ∈ news) (m4 : (dy, dAl w fm fa ka kb tm' ta') ∈ news) :
    Makes 20 w mean mg mb 222 [.ref x, .int va ta, .int vs ts] news (.list (rowD va vs c0 c1 (fa / 8) (fm / 8))) := by
  rw [← rowT_eq ha hm]
  exact Makes.heads (pre := [_, _, _, _]) (List.forall_mem_cons.mpr ⟨m1, List.forall_mem_cons.mpr ⟨m2, List.forall_mem_cons.mpr ⟨m3, List.forall_mem_cons.mpr ⟨m4, List.forall_mem_nil _⟩⟩⟩⟩) (c_told0 w mean mg mb news x dx y dy c0 c1 fa fm va vs t0 t1 k1 k2 k3 k4 k5 tv1 tv2 ka kb tm' ta' ta ts hva hvs ha hm)
end
/-- the lines that were read for the part above are not those of the next one -/
theorem pause_C10 : True ∧ True := by first | (walk1; fail) | exact ⟨trivial, trivial⟩
section
theorem fill_C11 : (PySem.Challenge.rw_fe0333_01, hd.heap_39) = (PySem.Challenge.rw_fe0333_01, hd.heap_39) := by k_fill; rfl
local macro_rules | `(tactic| walk_at "binaryOp Pow int int") => `(tactic| (k_here; (with_reducible refine pow_int_small ?kb1 ?kb2 ?kb3 ?_); (case kb1 => first | decide | exact fmod_nn _ (by decide)); (case kb2 => first | decide | exact fmod_le6 _ (by decide) (by decide)); (case kb3 => decide)))
local macro_rules | `(tactic| walk_at "getMethod ref") => `(tactic| (k_here; (with_reducible show wpAny _ _ (getMethod (Value.ref 57) (Str.ofString "keys") _) _ _ _); refine keys_get (keyed57 (by k_asm)) (by k_asm) ?_))
local macro_rules | `(tactic| walk_at "getMethod ref") => `(tactic| (k_here; (with_reducible show wpAny _ _ (getMethod (Value.ref 58) (Str.ofString "keys") _) _ _ _); refine keys_get (keyed58 (by k_asm)) (by k_asm) ?_))
local macro_rules | `(tactic| walk_at "call builtin:dict.keys") => `(tactic| (k_here; (with_reducible show wpAny _ _ (call (Value.builtin "dict.keys") [Value.ref _]) _ _ _); (first | (refine keys_call (keyed57 (by k_asm)) (by k_asm) (by k_asm) ?_) | (refine keys_call (keyed58 (by k_asm)) (by k_asm) (by k_asm) ?_)); intro V' h' F' N' l1; (try k_lt l1)))
local macro_rules | `(tactic| walk_at "call type:list") => `(tactic| (k_here; (with_reducible show wpAny _ _ (call (Value.type _) [Value.ref _]) _ _ _); (first | (refine keys_list (keyed57 (by k_asm)) rfl (by k_asm) (by k_asm) (by k_mem) ?_) | (refine keys_list (keyed58 (by k_asm)) rfl (by k_asm) (by k_asm) (by k_mem) ?_)); intro B' c' h' tk' t1 t2 t3 t4 t5 t6 t7 t8 F' N' l1; (try k_lt l1)))
local macro_rules | `(tactic| walk_at "binaryOp Mod str ref") => `(tactic| (k_here; (with_reducible show wpAny _ _ (binaryOp Operator.Mod (Value.str (Str.ofString "address_format must be an integer selected from : %s ") _) (Value.ref _)) _ _ _); refine' text1 ?a1 ?a2 ?a3 ?g ?u ?_; (case a1 => k_asm); (case a2 => k_asm); (case a3 => k_mem); (case g => (first | (simp only [guards_deeper, guards_make]; done) | ((try simp only [guards_deeper, guards_make]); rfl))); (case u => (have hc9 := cLine_is; (try simp only [units_make, units_deeper, units_in1]); (try dsimp only [ktrTop]); omega)); intro t' h' tk' F' N'))
local macro_rules | `(tactic| walk_at "binaryOp Mod str ref") => `(tactic| (k_here; (with_reducible show wpAny _ _ (binaryOp Operator.Mod (Value.str (Str.ofString "memorysize_format must be an integer selected from : %s") _) (Value.ref _)) _ _ _); refine' text2 ?a1 ?a2 ?a3 ?g ?u ?_; (case a1 => k_asm); (case a2 => k_asm); (case a3 => k_mem); (case g => (first | (simp only [guards_deeper, guards_make]; done) | ((try simp only [guards_deeper, guards_make]); rfl))); (case u => (have hc9 := cLine_is; (try simp only [units_make, units_deeper, units_in1]); (try dsimp only [ktrTop]); omega)); intro t' h' tk' F' N'))
local macro_rules | `(tactic| walk_at "my enter") => `(tactic| k_dflt (refine' code_def ?k1 ?k2 ?k3 ?k4 ?k5 ?kA ?kF ?kK ?k6 ?k7 ?k8 ?k9 ?kB ?_ ?c2 ?c3 ?c4 ?c5; (case kA => exact rfl); (case kF => exact rfl); (case kK => first | assumption | exact rfl); (case k1 => k_asm); (case k2 => k_asm); (case k3 => k_asm); (case k4 => k_asm); (case k5 => k_asm); (case k6 => k_is); (case k7 => k_is); (case k8 => ((try simp only [depth_make, depth_deeper, depth_in1]); (try dsimp only [ktrTop]); omega)); (case k9 => first | exact BindsTo.of_eq rfl | exact binds_K (by k_in) rfl (by k_is) rfl rfl rfl); (case c5 => decide); (case kB => exact locs rfl); (case c2 => exact rfl); (case c3 => exact rfl); (case c4 => exact rfl); k_whole; intro g' L' h' FG' F' N' B' X' T'; (try dsimp only); (try k_fold)))
local macro_rules | `(tactic| walk_at "my make") => `(tactic| (k_dflt (refine' call_cls ?k1 ?k2 ?k3 ?k4 ?k5 ?k6 ?_; (case k1 => k_asm); (case k2 => k_asm); (case k3 => k_asm); (case k4 => k_is); (case k5 => k_is); (case k6 => k_is); k_whole; intro x' d' h' F' N' l1 l2; (try k_lt l1); (try k_lt2 l2); (try k_sweep)); walk_at "my enter"))
local macro_rules | `(tactic| walk_at "my room") => `(tactic| ((try simp only [depth_make, depth_deeper, depth_in1, units_make, units_deeper, units_in1]); (try dsimp only [ktrTop]); omega))
local macro_rules | `(tactic| walk_at "leaving ref") => `(tactic| (k_here; first | (refine' leave_raiseS ?k1 ?k0 ?k2 ?k3 ?_; (case k0 => first | assumption | exact Heap.MadeExc.of (by assumption)); (case k2 => assumption); (case k1 => assumption); (case k3 => k_asm); k_whole; intro h' t' S' R' U'; (try dsimp only at S' R' U' ⊢)) | (refine' leave_onS ?k1 ?k2 ?k3 ?k4 ?_; (case k3 => assumption); (case k2 => assumption); (case k1 => assumption); (case k4 => assumption); k_whole; intro h' S' R' U'; (try dsimp only at S' R' U' ⊢))))
local macro_rules | `(tactic| walk_at "my sub") => `(tactic| ((repeat' (refine List.forall_mem_cons.mpr ⟨by k_mem, ?_⟩)); (intro p hp; repeat (first | exact hp | apply List.Mem.tail))))
local macro_rules | `(tactic| walk_at "my no") => `(tactic| first | assumption | exact and_no1 (by assumption) | exact and_no2 (by assumption) | exact and_no1 (no8 (by assumption)) | exact and_no2 (no8 (by assumption)))
local macro_rules | `(tactic| walk_at "my raise") => `(tactic| ((try dsimp only [InitBack]); refine' Rai.use2 ?H ?C ?U ?F ?R ?S; (case H => assumption); (case C => walk_at "my no"); (case U => assumption); (case F => assumption); (case R => assumption); (case S => walk_at "my sub")))
local macro_rules | `(tactic| walk_at "callWith ref nil") => `(tactic| (k_here; k_dflt (refine' callWith_KW0 ?k1 ?k2 ?k3 ?_; (case k1 => k_asm); (case k2 => k_is); (case k3 => exact rfl); k_whole)))
local macro_rules | `(tactic| walk_at "call ref") => `(tactic| (k_here; (with_reducible show wpAny _ _ (call (Value.ref 157) [Value.int _ _, Value.int _ _, _, _] _) _ _ _); k_dflt (refine' c_ml _ _ _ _ _ _ _ _ _ _ _ _ _  _ _ _ _ _ _ _ _ _ _ _ _ _ _ _ _ ?k1 ?k2 ?k3 ?k4 ?k5 ?kK ?kd ?ku  ?_ ?_; (case k1 => k_asm); (case k2 => k_asm); (case k3 => k_asm); (case k4 => k_asm); (case k5 => k_asm);  (case kK => first | exact rfl | assumption); (case kd => walk_at "my room"); (case ku => walk_at "my room"); (focus (unfold Bck; intro v9 n9 h' tk' F' N' r9; obtain ⟨x9, dx9, y9, dy9, k1, k2, k3, k4, k5, ka, kb, ta9, tm9, e9, e8, l1, lx1, lx2, lx3, hfa, hfm⟩ := r9; subst e9; subst e8; (try k_lt l1); unfold belowN at lx1 lx2 lx3; (try dsimp only); (try k_fold))); rotate_left; (focus (unfold Rai; intro n9 r9; obtain ⟨e9, hno⟩ := r9; subst e9; intro g' e' t' vs' h' tk' FG' R' U'; (try dsimp only); (try k_fold))); rotate_left)))
/-- a call from the law itself, of a def that catches -/
abbrev DoesL (lv : Nat) (w : World) (mean : ExcName → Option Value) (mg mb : Str → Option Value) (f : Addr) (vs : List Value) (kw : List (Str × Value)) (news : List (Addr × Obj)) (R : Value → List (Addr × Obj) → Prop) : Prop :=
  ∀ (dp un : Nat) (cn : Str) (cs : Scope) (a : Addr) (ccd : Value) (cl : List (Str × Addr)) (A₀ : Around) (h₀ : Heap) (L : Addr) (m : Str → Option Value) (s : Shared) (Q E : Value → Shared → Prop),
    Below A₀ h₀ [] h₀ → Fr h₀ L s.heap m → (hd.heap_39 w.params).In h₀ → News h₀ L s.heap news → Top hd.view_39 LO mean mg mb h₀ → cs.kind = .function → dp + lv < recursionLimit → un + 20 * lv < cLine →
    Bck h₀ L m s Q R →
    wpAny (model PR w) (ktrTop dp un (some []) cn cs L a ccd cl []) (call (.ref f) vs kw) Q E s
theorem ground9_of {w : World} {mean : ExcName → Option Value} {mg mb : Str → Option Value} {h₀ : Heap} (K : (hd.heap_39 w.params).In h₀) (T : Top hd.view_39 LO mean mg mb h₀) : Ground9 w mean mg mb h₀ := ⟨K, T⟩
local macro_rules | `(tactic| walk_at "my enterr") => `(tactic| k_dflt (refine' enter_raw ?k1 ?k2 ?k3 ?k4 ?k5 ?kA ?kF ?kK ?k6 ?k7 ?k8 ?k9 ?kB ?_ ?c2 ?c3 ?c4 ?c5; (case kA => exact rfl); (case kF => exact rfl); (case kK => first | assumption | exact rfl); (case k1 => k_asm); (case k2 => k_asm); (case k3 => k_asm); (case k4 => k_asm); (case k5 => k_asm); (case k6 => k_is); (case k7 => k_is); (case k8 => ((try simp only [depth_make, depth_deeper, depth_in1]); (try dsimp only [ktrTop]); omega)); (case k9 => first | exact BindsTo.of_eq rfl | exact binds_K (by k_in) rfl (by k_is) rfl rfl rfl); (case c5 => decide); (case kB => exact locs rfl); (case c2 => exact rfl); (case c3 => exact rfl); (case c4 => exact rfl); k_whole; intro g' L' h' FG' F' N' B' X' T'; (try dsimp only); (try k_fold)))
local macro_rules | `(tactic| walk_at "my catchV") => `(tactic| (refine' caught_S0 (T' := "ValueError") ?R ?F ?K ?U ?XB ?TB ?D ?T0 ?ex PyProof.Rows.Boot.«ValueError» ?hn PySem.F.isExc_ValueError PySem.F.notTuple_ValueError ?hs ?_; (case R => assumption); (case U => assumption); (case F => assumption); (case K => assumption); (case XB => exact Ground9.inK (by assumption)); (case TB => exact Ground9.top (by assumption)); (case D => exact dicts_one (by assumption)); (case T0 => exact KtsTurn.refl); (case hs => kts_sub); (case ex => k_is); (case hn => decide); k_whole; intro h' g' n₂ Tn' F' N₂ G' N' B' X' P' D'))
local macro_rules | `(tactic| walk_at "my exit") => `(tactic| (first | (obtain ⟨F0, N0⟩ := exit_turn (by assumption) (by assumption : KtsTurn _ _ _) (by assumption) (by assumption)) | (obtain ⟨F0, N0⟩ := exit_turn (by assumption) KtsTurn.refl (by assumption) (by assumption))))
theorem exit_use {h₀ g g' h : Heap} {L L' : Addr} {m m' : Str → Option Value} {s : Shared} {Q : Value → Shared → Prop} {R : Value → List (Addr × Obj) → Prop} {v : Value} {news' : List (Addr × Obj)} {tk : Nat} (hret : Bck h₀ L m s Q R) (FG : Fr h₀ L g m) (F : Fr g' L' h m') (N : News g' L' h news') (T : KtsTurn [L] g g') (r : R v news') : Q v { s with heap := h, toks := tk } := by
  obtain ⟨F0, N0⟩ := exit_turn FG T F N
  exact hret.use F0 N0 r
set_option maxHeartbeats 8000000 in
theorem c_made (w : World) (mean : ExcName → Option Value) (mg mb : Str → Option Value) (tl : List (Addr × Obj)) (lc : Addr) (nc : Nat) (v1 v2 : Int) (c0 c1 : Option Int) (ta tm t0 t1 : Tok) :
    DoesL 30 w mean mg mb 208 [.int v1 ta, .int v2 tm, .ref lc] [] ((lc, listOf #[cellV c0 t0, cellV c1 t1] nc) :: tl)
      (fun r news' => (∃ l nl, r = .ref l ∧ (ok8 (fmtOf c0 v1) && ok8 (fmtOf c1 v2)) = false ∧ news' = (l, listOf #[] nl) :: (lc, listOf #[cellV c0 t0, cellV c1 t1] nc) :: tl ∧ (∀ p ∈ tl, p.1 < l)) ∨
        (∃ l nl x dx y dy k1 k2 k3 k4 k5 ka kb ta' tm', r = .ref l ∧ ok8 (fmtOf c0 v1) = true ∧ ok8 (fmtOf c1 v2) = true ∧
          news' = (l, listOf #[.ref x] nl) :: (y, instObj 82 dy) :: (dy, dAl w (fmtOf c1 v2) (fmtOf c0 v1) ka kb tm' ta') :: (x, instObj 157 dx) :: (dx, dML w v1 v2 (cellV c0 t0) (cellV c1 t1) y k1 k2 k3 k4 k5 ta tm) :: (lc, listOf #[cellV c0 t0, cellV c1 t1] nc) :: tl ∧
          (∀ p ∈ tl, p.1 < dx) ∧ belowN dx x ∧ belowN x dy ∧ belowN dy y ∧ belowN y l)) := by
  intro dp un cn cs a ccd cl A₀ h₀ L m s Q E B F K N T hk hdp hun hret
  have GB := ground9_of K T
  refine wpAny_call ?_
  walk_at "my enterr"
  k_steps
  · exact exit_use hret (by assumption) (by assumption) (by assumption) KtsTurn.refl (.inr ⟨_, _, _, _, _, _, _, _, _, _, _, _, _, _, _, rfl, by assumption, by assumption, rfl, (fun p hp => allLt_mem (by assumption : lc < _ ∧ AllLt _ tl).2 p hp), by (unfold belowN; omega), by (unfold belowN; omega), by (unfold belowN; omega), by (unfold belowN; omega)⟩)
  · walk_at "my catchV"
    k_steps
    exact exit_use hret (by assumption) (by assumption) (by assumption) (by assumption) (.inl ⟨_, _, rfl, by assumption, rfl, fun p hp => allLt_mem (by assumption : lc < _ ∧ AllLt _ tl).2 p hp⟩)
end
/-- the lines that were read for the part above are not those of the next one -/
theorem pause_C11 : True ∧ True := by first | (walk1; fail) | exact ⟨trivial, trivial⟩
section
theorem fill_C12 : (PySem.Challenge.rw_fe0333_01, hd.heap_39) = (PySem.Challenge.rw_fe0333_01, hd.heap_39) := by k_fill; rfl
local macro_rules | `(tactic| walk_at "binaryOp Pow int int") => `(tactic| (k_here; (with_reducible refine pow_int_small ?kb1 ?kb2 ?kb3 ?_); (case kb1 => first | decide | exact fmod_nn _ (by decide)); (case kb2 => first | decide | exact fmod_le6 _ (by decide) (by decide)); (case kb3 => decide)))
local macro_rules | `(tactic| walk_at "getMethod ref") => `(tactic| (k_here; (with_reducible show wpAny _ _ (getMethod (Value.ref 57) (Str.ofString "keys") _) _ _ _); refine keys_get (keyed57 (by k_asm)) (by k_asm) ?_))
local macro_rules | `(tactic| walk_at "getMethod ref") => `(tactic| (k_here; (with_reducible show wpAny _ _ (getMethod (Value.ref 58) (Str.ofString "keys") _) _ _ _); refine keys_get (keyed58 (by k_asm)) (by k_asm) ?_))
local macro_rules | `(tactic| walk_at "call builtin:dict.keys") => `(tactic| (k_here; (with_reducible show wpAny _ _ (call (Value.builtin "dict.keys") [Value.ref _]) _ _ _); (first | (refine keys_call (keyed57 (by k_asm)) (by k_asm) (by k_asm) ?_) | (refine keys_call (keyed58 (by k_asm)) (by k_asm) (by k_asm) ?_)); intro V' h' F' N' l1; (try k_lt l1)))
local macro_rules | `(tactic| walk_at "call type:list") => `(tactic| (k_here; (with_reducible show wpAny _ _ (call (Value.type _) [Value.ref _]) _ _ _); (first | (refine keys_list (keyed57 (by k_asm)) rfl (by k_asm) (by k_asm) (by k_mem) ?_) | (refine keys_list (keyed58 (by k_asm)) rfl (by k_asm) (by k_asm) (by k_mem) ?_)); intro B' c' h' tk' t1 t2 t3 t4 t5 t6 t7 t8 F' N' l1; (try k_lt l1)))
local macro_rules | `(tactic| walk_at "binaryOp Mod str ref") => `(tactic| (k_here; (with_reducible show wpAny _ _ (binaryOp Operator.Mod (Value.str (Str.ofString "address_format must be an integer selected from : %s ") _) (Value.ref _)) _ _ _); refine' text1 ?a1 ?a2 ?a3 ?g ?u ?_; (case a1 => k_asm); (case a2 => k_asm); (case a3 => k_mem); (case g => (first | (simp only [guards_deeper, guards_make]; done) | ((try simp only [guards_deeper, guards_make]); rfl))); (case u => (have hc9 := cLine_is; (try simp only [units_make, units_deeper, units_in1]); (try dsimp only [ktrTop]); omega)); intro t' h' tk' F' N'))
local macro_rules | `(tactic| walk_at "binaryOp Mod str ref") => `(tactic| (k_here; (with_reducible show wpAny _ _ (binaryOp Operator.Mod (Value.str (Str.ofString "memorysize_format must be an integer selected from : %s") _) (Value.ref _)) _ _ _); refine' text2 ?a1 ?a2 ?a3 ?g ?u ?_; (case a1 => k_asm); (case a2 => k_asm); (case a3 => k_mem); (case g => (first | (simp only [guards_deeper, guards_make]; done) | ((try simp only [guards_deeper, guards_make]); rfl))); (case u => (have hc9 := cLine_is; (try simp only [units_make, units_deeper, units_in1]); (try dsimp only [ktrTop]); omega)); intro t' h' tk' F' N'))
local macro_rules | `(tactic| walk_at "my enter") => `(tactic| k_dflt (refine' code_def ?k1 ?k2 ?k3 ?k4 ?k5 ?kA ?kF ?kK ?k6 ?k7 ?k8 ?k9 ?kB ?_ ?c2 ?c3 ?c4 ?c5; (case kA => exact rfl); (case kF => exact rfl); (case kK => first | assumption | exact rfl); (case k1 => k_asm); (case k2 => k_asm); (case k3 => k_asm); (case k4 => k_asm); (case k5 => k_asm); (case k6 => k_is); (case k7 => k_is); (case k8 => ((try simp only [depth_make, depth_deeper, depth_in1]); (try dsimp only [ktrTop]); omega)); (case k9 => first | exact BindsTo.of_eq rfl | exact binds_K (by k_in) rfl (by k_is) rfl rfl rfl); (case c5 => decide); (case kB => exact locs rfl); (case c2 => exact rfl); (case c3 => exact rfl); (case c4 => exact rfl); k_whole; intro g' L' h' FG' F' N' B' X' T'; (try dsimp only); (try k_fold)))
local macro_rules | `(tactic| walk_at "my make") => `(tactic| (k_dflt (refine' call_cls ?k1 ?k2 ?k3 ?k4 ?k5 ?k6 ?_; (case k1 => k_asm); (case k2 => k_asm); (case k3 => k_asm); (case k4 => k_is); (case k5 => k_is); (case k6 => k_is); k_whole; intro x' d' h' F' N' l1 l2; (try k_lt l1); (try k_lt2 l2); (try k_sweep)); walk_at "my enter"))
local macro_rules | `(tactic| walk_at "my room") => `(tactic| ((try simp only [depth_make, depth_deeper, depth_in1, units_make, units_deeper, units_in1]); (try dsimp only [ktrTop]); omega))
local macro_rules | `(tactic| walk_at "leaving ref") => `(tactic| (k_here; first | (refine' leave_raiseS ?k1 ?k0 ?k2 ?k3 ?_; (case k0 => first | assumption | exact Heap.MadeExc.of (by assumption)); (case k2 => assumption); (case k1 => assumption); (case k3 => k_asm); k_whole; intro h' t' S' R' U'; (try dsimp only at S' R' U' ⊢)) | (refine' leave_onS ?k1 ?k2 ?k3 ?k4 ?_; (case k3 => assumption); (case k2 => assumption); (case k1 => assumption); (case k4 => assumption); k_whole; intro h' S' R' U'; (try dsimp only at S' R' U' ⊢))))
local macro_rules | `(tactic| walk_at "my sub") => `(tactic| ((repeat' (refine List.forall_mem_cons.mpr ⟨by k_mem, ?_⟩)); (intro p hp; repeat (first | exact hp | apply List.Mem.tail))))
local macro_rules | `(tactic| walk_at "my no") => `(tactic| first | assumption | exact and_no1 (by assumption) | exact and_no2 (by assumption) | exact and_no1 (no8 (by assumption)) | exact and_no2 (no8 (by assumption)))
local macro_rules | `(tactic| walk_at "my raise") => `(tactic| ((try dsimp only [InitBack]); refine' Rai.use2 ?H ?C ?U ?F ?R ?S; (case H => assumption); (case C => walk_at "my no"); (case U => assumption); (case F => assumption); (case R => assumption); (case S => walk_at "my sub")))
local macro_rules | `(tactic| walk_at "callWith ref nil") => `(tactic| (k_here; k_dflt (refine' callWith_KW0 ?k1 ?k2 ?k3 ?_; (case k1 => k_asm); (case k2 => k_is); (case k3 => exact rfl); k_whole)))
local macro_rules | `(tactic| walk_at "my enterr") => `(tactic| k_dflt (refine' enter_raw ?k1 ?k2 ?k3 ?k4 ?k5 ?kA ?kF ?kK ?k6 ?k7 ?k8 ?k9 ?kB ?_ ?c2 ?c3 ?c4 ?c5; (case kA => exact rfl); (case kF => exact rfl); (case kK => first | assumption | exact rfl); (case k1 => k_asm); (case k2 => k_asm); (case k3 => k_asm); (case k4 => k_asm); (case k5 => k_asm); (case k6 => k_is); (case k7 => k_is); (case k8 => ((try simp only [depth_make, depth_deeper, depth_in1]); (try dsimp only [ktrTop]); omega)); (case k9 => first | exact BindsTo.of_eq rfl | exact binds_K (by k_in) rfl (by k_is) rfl rfl rfl); (case c5 => decide); (case kB => exact locs rfl); (case c2 => exact rfl); (case c3 => exact rfl); (case c4 => exact rfl); k_whole; intro g' L' h' FG' F' N' B' X' T'; (try dsimp only); (try k_fold)))
local macro_rules | `(tactic| walk_at "my catchV") => `(tactic| (refine' caught_S0 (T' := "ValueError") ?R ?F ?K ?U ?XB ?TB ?D ?T0 ?ex PyProof.Rows.Boot.«ValueError» ?hn PySem.F.isExc_ValueError PySem.F.notTuple_ValueError ?hs ?_; (case R => assumption); (case U => assumption); (case F => assumption); (case K => assumption); (case XB => exact Ground9.inK (by assumption)); (case TB => exact Ground9.top (by assumption)); (case D => exact dicts_one (by assumption)); (case T0 => exact KtsTurn.refl); (case hs => kts_sub); (case ex => k_is); (case hn => decide); k_whole; intro h' g' n₂ Tn' F' N₂ G' N' B' X' P' D'))
local macro_rules | `(tactic| walk_at "my exit") => `(tactic| (first | (obtain ⟨F0, N0⟩ := exit_turn (by assumption) (by assumption : KtsTurn _ _ _) (by assumption) (by assumption)) | (obtain ⟨F0, N0⟩ := exit_turn (by assumption) KtsTurn.refl (by assumption) (by assumption))))
theorem b_pos (w : World) (x : Addr) (o0 o1 : Option Int) (s0 s1 : Tok) : Binds9 w 109 [.ref x, cellV o0 s0, cellV o1 s1] [] [(Str.ofString "self", .ref x), (Str.ofString "address_format", cellV o0 s0), (Str.ofString "memorysize_format", cellV o1 s1)] := by
  intro s X
  refine' binds_of ?h0 ?hb
  case h0 => k_is
  case hb => first | exact BindsTo.of_eq rfl | exact binds_K (by k_in) rfl (by k_is) rfl rfl rfl
theorem b_kw1 (w : World) (x : Addr) (o0 : Option Int) (s0 s1 : Tok) : Binds9 w 109 [.ref x] [(Str.ofString "address_format", cellV o0 s0)] [(Str.ofString "self", .ref x), (Str.ofString "address_format", cellV o0 s0), (Str.ofString "memorysize_format", cellV none s1)] := by
  intro s X
  refine' binds_of ?h0 ?hb
  case h0 => k_is
  case hb => first | exact BindsTo.of_eq rfl | exact binds_K (by k_in) rfl (by k_is) rfl rfl rfl
theorem b_kw2 (w : World) (x : Addr) (o1 : Option Int) (s0 s1 : Tok) : Binds9 w 109 [.ref x] [(Str.ofString "memorysize_format", cellV o1 s1)] [(Str.ofString "self", .ref x), (Str.ofString "address_format", cellV none s0), (Str.ofString "memorysize_format", cellV o1 s1)] := by
  intro s X
  refine' binds_of ?h0 ?hb
  case h0 => k_is
  case hb => first | exact BindsTo.of_eq rfl | exact binds_K (by k_in) rfl (by k_is) rfl rfl rfl
structure BW (w : World) (f : Addr) (vs : List Value) (kw binds : List (Str × Value)) : Prop where
  out : Binds9 w f vs kw binds
theorem bw_pos (w : World) (x : Addr) (o0 o1 : Option Int) (s0 s1 : Tok) : BW w 109 [.ref x, cellV o0 s0, cellV o1 s1] [] [(Str.ofString "self", .ref x), (Str.ofString "address_format", cellV o0 s0), (Str.ofString "memorysize_format", cellV o1 s1)] := ⟨b_pos w x o0 o1 s0 s1⟩
theorem bw_kw1 (w : World) (x : Addr) (o0 : Option Int) (s0 s1 : Tok) : BW w 109 [.ref x] [(Str.ofString "address_format", cellV o0 s0)] [(Str.ofString "self", .ref x), (Str.ofString "address_format", cellV o0 s0), (Str.ofString "memorysize_format", cellV none s1)] := ⟨b_kw1 w x o0 s0 s1⟩
theorem bw_kw2 (w : World) (x : Addr) (o1 : Option Int) (s0 s1 : Tok) : BW w 109 [.ref x] [(Str.ofString "memorysize_format", cellV o1 s1)] [(Str.ofString "self", .ref x), (Str.ofString "address_format", cellV none s0), (Str.ofString "memorysize_format", cellV o1 s1)] := ⟨b_kw2 w x o1 s0 s1⟩
theorem bw_kv1 (w : World) (x : Addr) (v : Value) (o0 : Option Int) (s0 : Tok) (hv : v = cellV o0 s0) : BW w 109 [.ref x] [(Str.ofString "address_format", v)] [(Str.ofString "self", .ref x), (Str.ofString "address_format", cellV o0 s0), (Str.ofString "memorysize_format", cellV none 0)] := hv ▸ bw_kw1 w x o0 s0 0
theorem bw_kv2 (w : World) (x : Addr) (v : Value) (o1 : Option Int) (s1 : Tok) (hv : v = cellV o1 s1) : BW w 109 [.ref x] [(Str.ofString "memorysize_format", v)] [(Str.ofString "self", .ref x), (Str.ofString "address_format", cellV none 0), (Str.ofString "memorysize_format", cellV o1 s1)] := hv ▸ bw_kw2 w x o1 0 s1
theorem c_setW (w : World) (mean : ExcName → Option Value) (mg mb : Str → Option Value) (tl : List (Addr × Obj)) (x dx y : Addr) (v1 v2 : Int) (c0 c1 o0 o1 : Option Int) (k1 k2 k3 k4 k5 tv1 tv2 t0 t1 s0 s1 : Tok)
    (hxd : @Ne Nat x dx) (hoff : OwnOff tl [dx]) (vs : List Value) (kw : List (Str × Value)) (hb : BW w 109 vs kw [(Str.ofString "self", .ref x), (Str.ofString "address_format", cellV o0 s0), (Str.ofString "memorysize_format", cellV o1 s1)]) :
    DoesD 20 w mean mg mb 109 vs kw ((x, instObj 157 dx) :: (dx, dML w v1 v2 (cellV c0 t0) (cellV c1 t1) y k1 k2 k3 k4 k5 tv1 tv2) :: tl)
      (fun r news' => r = .none ∧ ∃ y' dy' ka kb ta' tm', news' = (y', instObj 82 dy') :: (dy', dAl w (fmtOf (aft c1 o1) v2) (fmtOf (aft c0 o0) v1) ka kb tm' ta') :: (x, instObj 157 dx) :: (dx, dML w v1 v2 (cellV (aft c0 o0) (aftT c0 t0 s0)) (cellV (aft c1 o1) (aftT c1 t1 s1)) y' k1 k2 k3 k4 k5 tv1 tv2) :: tl ∧
        AllLt dy' tl ∧ belowN x dy' ∧ belowN dx dy' ∧ belowN dy' y' ∧ ok8 (fmtOf (aft c0 o0) v1) = true ∧ ok8 (fmtOf (aft c1 o1) v2) = true)
      (fun nx => nx = ((x, instObj 157 dx) :: (dx, dML w v1 v2 (cellV c0 t0) (cellV c1 t1) y k1 k2 k3 k4 k5 tv1 tv2) :: tl) ∧ (ok8 (fmtOf (aft c0 o0) v1) && ok8 (fmtOf (aft c1 o1) v2)) = false) :=
  c_set w mean mg mb tl x dx y v1 v2 c0 c1 o0 o1 k1 k2 k3 k4 k5 tv1 tv2 t0 t1 s0 s1 hxd hoff vs kw hb.out
theorem off_cons1 {p : Addr × Obj} {d : Addr} {tl : List (Addr × Obj)} (h : @Ne Nat p.1 d) (h2 : OwnOff tl [d]) : OwnOff (p :: tl) [d] := fun q hq b hb => by
  rw [List.mem_singleton.mp hb]
  rcases List.mem_cons.mp hq with e | hq
  · rw [e]; exact h
  · exact h2 q hq d (.head _)
local macro_rules | `(tactic| walk_at "my off") => `(tactic| first | assumption | (refine' off_cons1 ?oa ?ob; (case oa => k_ne); (case ob => walk_at "my off")))
local macro_rules | `(tactic| walk_at "call ref") => `(tactic| (k_here; (with_reducible show wpAny _ _ (call (Value.ref 109) _ _) _ _ _); k_dflt (refine' c_setW _ _ _ _ _ _ _ _ _ _ _ _ _ _ _ _ _ _ _ _ _ _ _ _ _ ?hx ?ho _ _ ?hb _ _ _ _ _ _ _ _ _ _ _ _ _ _ _ _ ?k1 ?k2 ?k3 ?k4 ?k5 ?kK ?kd ?ku ?g9 ?d9 ?_ ?_; (case k1 => k_asm); (case k2 => k_asm); (case k3 => k_asm); (case k4 => k_asm); (case k5 => k_asm); (case hx => k_ne); (case ho => walk_at "my off"); (case hb => first | exact bw_pos _ _ _ _ _ _ | (refine bw_kv1 _ _ _ _ _ ?_; exact rfl) | (refine bw_kv2 _ _ _ _ _ ?_; exact rfl)); (case g9 => assumption); (case d9 => exact dicts_one (by assumption)); (case kK => first | exact rfl | assumption); (case kd => walk_at "my room"); (case ku => walk_at "my room"); (focus (unfold Bck; intro v9 n9 h' tk' F' N' r9; obtain ⟨e8, y9, dy9, ka9, kb9, ta9, tm9, e9, l1, lx1, lx2, lx3, hfa, hfm⟩ := r9; subst e9; subst e8; unfold belowN at lx1 lx2 lx3; (try dsimp only); (try k_fold))); rotate_left; (focus (unfold Rai; intro n9 r9; obtain ⟨e9, hno⟩ := r9; subst e9; intro g' e' t' vs' h' tk' FG' R' U'; (try dsimp only); (try k_fold))); rotate_left)))
set_option maxHeartbeats 8000000 in
theorem c_done (w : World) (mean : ExcName → Option Value) (mg mb : Str → Option Value) (tl : List (Addr × Obj)) (x dx y lo : Addr) (no : Nat) (v1 v2 : Int) (c0 c1 o0 o1 : Option Int) (k1 k2 k3 k4 k5 tv1 tv2 t0 t1 s0 s1 tw : Tok) (wy : Int)
    (hxd : @Ne Nat x dx) (hld : @Ne Nat lo dx) (hoff : OwnOff tl [dx]) (hw1 : wy = 1 → o1 = none) (hw2 : wy ≠ 0 → wy ≠ 1 → o0 = none) :
    DoesL 30 w mean mg mb 215 [.ref x, .int wy tw, .ref lo] [] ((x, instObj 157 dx) :: (dx, dML w v1 v2 (cellV c0 t0) (cellV c1 t1) y k1 k2 k3 k4 k5 tv1 tv2) :: (lo, listOf #[cellV o0 s0, cellV o1 s1] no) :: tl)
      (fun r news' => (∃ t, r = .str (Str.ofString "refused") t ∧ (ok8 (fmtOf (aft c0 o0) v1) && ok8 (fmtOf (aft c1 o1) v2)) = false ∧ news' = (x, instObj 157 dx) :: (dx, dML w v1 v2 (cellV c0 t0) (cellV c1 t1) y k1 k2 k3 k4 k5 tv1 tv2) :: (lo, listOf #[cellV o0 s0, cellV o1 s1] no) :: tl) ∨
        (∃ t y' dy' ka kb ta' tm' t0' t1', r = .str (Str.ofString "done") t ∧ ok8 (fmtOf (aft c0 o0) v1) = true ∧ ok8 (fmtOf (aft c1 o1) v2) = true ∧
          news' = (y', instObj 82 dy') :: (dy', dAl w (fmtOf (aft c1 o1) v2) (fmtOf (aft c0 o0) v1) ka kb tm' ta') :: (x, instObj 157 dx) :: (dx, dML w v1 v2 (cellV (aft c0 o0) t0') (cellV (aft c1 o1) t1') y' k1 k2 k3 k4 k5 tv1 tv2) :: (lo, listOf #[cellV o0 s0, cellV o1 s1] no) :: tl ∧
          AllLt dy' ((lo, listOf #[cellV o0 s0, cellV o1 s1] no) :: tl) ∧ belowN x dy' ∧ belowN dx dy' ∧ belowN dy' y')) := by
  intro dp un cn cs a ccd cl A₀ h₀ L m s Q E B F K N T hk hdp hun hret
  have GB := ground9_of K T
  refine wpAny_call ?_
  walk_at "my enterr"
  k_steps
  · skip
    exact exit_use hret (by assumption) (by assumption) (by assumption) KtsTurn.refl (.inr ⟨_, _, _, _, _, _, _, _, _, rfl, by assumption, by assumption, rfl, by assumption, by assumption, by assumption, by assumption⟩)
  · skip
    walk_at "my catchV"
    k_steps
    exact exit_use hret (by assumption) (by assumption) (by assumption) (by assumption) (.inl ⟨_, rfl, by assumption, rfl⟩)
  · have e1 := hw1 (by assumption)
    subst e1
    exact exit_use hret (by assumption) (by assumption) (by assumption) KtsTurn.refl (.inr ⟨_, _, _, _, _, _, _, _, _, rfl, by assumption, by assumption, rfl, by assumption, by assumption, by assumption, by assumption⟩)
  · have e1 := hw1 (by assumption)
    subst e1
    walk_at "my catchV"
    k_steps
    exact exit_use hret (by assumption) (by assumption) (by assumption) (by assumption) (.inl ⟨_, rfl, by assumption, rfl⟩)
  · have e1 := hw2 (by assumption) (by assumption)
    subst e1
    exact exit_use hret (by assumption) (by assumption) (by assumption) KtsTurn.refl (.inr ⟨_, _, _, _, _, _, _, _, _, rfl, by assumption, by assumption, rfl, by assumption, by assumption, by assumption, by assumption⟩)
  · have e1 := hw2 (by assumption) (by assumption)
    subst e1
    walk_at "my catchV"
    k_steps
    exact exit_use hret (by assumption) (by assumption) (by assumption) (by assumption) (.inl ⟨_, rfl, by assumption, rfl⟩)
end
/-- the lines that were read for the part above are not those of the next one -/
theorem pause_C12 : True ∧ True := by first | (walk1; fail) | exact ⟨trivial, trivial⟩
section
theorem fill_C13 : (PySem.Challenge.rw_fe0333_01, hd.heap_39) = (PySem.Challenge.rw_fe0333_01, hd.heap_39) := by k_fill; rfl
theorem size13 {vs : List Value} {ns : List Int} {k : Nat} (hI : IntsAre vs (ns ++ [3, 4, 0, 131, 2, 40])) (h : ns.length ≤ k) (hk : k ≤ 1000) : vs.toArray.size ≤ sizeLine := by
  rw [List.size_toArray, hI.length, sizeLine_eq, List.length_append]
  simp only [List.length_cons, List.length_nil]
  omega
section
variable {prog : Program} {w : World} {A : Around} {E : Value → Shared → Prop} {s : Shared} {h₀ : Heap} {L l : Addr} {m : Str → Option Value} {news : List (Addr × Obj)} {value slice : PySem.Expr} {vs : List Value} {ns : List Int} {Q : Value → Shared → Prop}
theorem ints_three {vs : List Value} {ns : List Int} (hI : IntsAre vs ns) (h3 : 3 ≤ ns.length) : ∃ a b c t1 t2 t3 ws rs, vs = .int a t1 :: .int b t2 :: .int c t3 :: ws ∧ ns = a :: b :: c :: rs ∧ IntsAre ws rs := by
  cases hI with
  | nil => simp at h3
  | cons a t1 h =>
    cases h with
    | nil => simp at h3
    | cons b t2 h =>
      cases h with
      | nil => simp at h3
      | cons c t3 h => exact ⟨a, b, c, t1, t2, t3, _, _, rfl, rfl, h⟩
theorem slice13 {t13 : Tok} (F : Fr h₀ L s.heap m) (N : News h₀ L s.heap news) (hl : s.heap.IsList l vs.toArray) (hI : IntsAre vs ns) (h3 : 3 ≤ ns.length)
    (h : ∀ D a b c t1 t2 t3 ws rs h', Fr h₀ L h' m → News h₀ L h' ((D, listOf (List.toArray (.int a t1 :: .int b t2 :: .int c t3 :: ws)) 0) :: news) → (∀ p ∈ news, p.1 < D) → IntsAre ws rs → rs.length ≤ 10 → Q (.ref D) { s with heap := h' })
    (hs : subscripted slice false (.ref l) (.ref s.heap.objs.size) = operate [.ref s.heap.objs.size, .ref l] (getItem (.ref l) (.ref s.heap.objs.size))) (ht : ∀ r, letTemporaryGo value (.ref l) r = pure ()) (hz : vs.toArray.size ≤ sizeLine) :
    wpAny (model prog w) A (subscriptTail value slice (.ref l) (.ref s.heap.objs.size)) Q E { s with heap := s.heap.push { cls := .type "slice", data := .fields #[.none, .int 13 t13, .none] } } := by
  have hk := kmk_upto hI (y := 13) (by decide)
  obtain ⟨a, b, c, t1, t2, t3, ws, rs, e1, e2, hI'⟩ := ints_three hk (by rw [List.length_take]; omega)
  refine kmk_slice F N hl IsPart.none (IsPart.int 13 t13) (fun D h' F' N' l1 => h D a b c t1 t2 t3 ws rs h' F' ?_ l1 hI' ?_) hs ht hz
  · rw [← e1, Array.toArray_toList]; exact N'
  · have := congrArg List.length e2
    rw [List.length_take] at this
    simp only [List.length_cons] at this
    omega
theorem slice3 {t3' : Tok} {a b c : Value} {ws : List Value} (F : Fr h₀ L s.heap m) (N : News h₀ L s.heap news) (hl : s.heap.IsList l (List.toArray (a :: b :: c :: ws))) (hw : ws.length ≤ 10)
    (h : ∀ D h', Fr h₀ L h' m → News h₀ L h' ((D, listOf (List.toArray ws) 0) :: news) → (∀ p ∈ news, p.1 < D) → Q (.ref D) { s with heap := h' })
    (hs : subscripted slice false (.ref l) (.ref s.heap.objs.size) = operate [.ref s.heap.objs.size, .ref l] (getItem (.ref l) (.ref s.heap.objs.size))) (ht : ∀ r, letTemporaryGo value (.ref l) r = pure ()) :
    wpAny (model prog w) A (subscriptTail value slice (.ref l) (.ref s.heap.objs.size)) Q E { s with heap := s.heap.push { cls := .type "slice", data := .fields #[.int 3 t3', .none, .none] } } := by
  have e : sliceBounds (some 3) none none (List.toArray (a :: b :: c :: ws)).size = (((3 : Nat) : Int), ((ws.length + 3 : Nat) : Int), 1) := by
    simp only [sliceBounds, Option.getD_none, List.size_toArray, List.length_cons, show (1 : Int) > 0 by decide, if_true, if_neg (show ¬ ((3 : Int) < 0) by decide)]
    congr 1
    omega
  refine kmk_slice_lit (zs := ws) F N hl (IsPart.int 3 t3') IsPart.none ?_ h hs ht ?_
  · rw [kmk_pick_nat _ e]
    simp
  · rw [List.size_toArray, sizeLine_eq]
    simp only [List.length_cons]
    omega
end
theorem cells13 (t1 t2 t3 t4 t5 t6 t7 t8 t9 t10 t11 t12 : Tok) : ∀ v ∈ [Value.none, .int 8 t1, .int 16 t2, .int 24 t3, .int 32 t4, .int 40 t5, .int 48 t6, .int 56 t7, .int 64 t8, .int 0 t9, .int 12 t10, .int 72 t11, .int (-8) t12], ∃ c t, v = cellV c t := by
  refine List.forall_mem_cons.mpr ⟨⟨none, 0, rfl⟩, ?_⟩
  repeat' (refine List.forall_mem_cons.mpr ⟨⟨some _, _, rfl⟩, ?_⟩)
  exact fun v hv => (nomatch hv)
theorem item13 {prog : Program} {w : World} {A : Around} {E : Value → Shared → Prop} {s : Shared} {h₀ : Heap} {L l : Addr} {news : List (Addr × Obj)} {value slice : PySem.Expr} {k : Int} {u : Tok} {Q : Value → Shared → Prop} {t1 t2 t3 t4 t5 t6 t7 t8 t9 t10 t11 t12 : Tok} (N : News h₀ L s.heap news)
    (hm : (l, listOf #[.none, .int 8 t1, .int 16 t2, .int 24 t3, .int 32 t4, .int 40 t5, .int 48 t6, .int 56 t7, .int 64 t8, .int 0 t9, .int 12 t10, .int 72 t11, .int (-8) t12] 0) ∈ news)
    (h0 : 0 ≤ k) (h1 : k < 13) (h : ∀ c t, Q (cellV c t) s)
    (hs : subscripted slice false (.ref l) (.int k u) = operate [.ref l, .int k u] (getItem (.ref l) (.int k u)) := by with_unfolding_all rfl) :
    wpAny (model prog w) A (subscriptTail value slice (.ref l) (.int k u)) Q E s := by
  have hl : s.heap.IsList l #[.none, .int 8 t1, .int 16 t2, .int 24 t3, .int 32 t4, .int 40 t5, .int 48 t6, .int 56 t7, .int 64 t8, .int 0 t9, .int 12 t10, .int 72 t11, .int (-8) t12] := ⟨_, (N _ hm).1, rfl, 0, rfl⟩
  have hk : k.toNat < 13 := by omega
  have hv := List.getElem?_eq_getElem (l := [Value.none, .int 8 t1, .int 16 t2, .int 24 t3, .int 32 t4, .int 40 t5, .int 48 t6, .int 56 t7, .int 64 t8, .int 0 t9, .int 12 t10, .int 72 t11, .int (-8) t12]) (i := k.toNat) hk
  obtain ⟨c, t, e⟩ := cells13 t1 t2 t3 t4 t5 t6 t7 t8 t9 t10 t11 t12 _ (List.getElem_mem hk)
  rw [e] at hv
  exact tail_any hl.typeIs slot_list_getitem.lookup (wpAny_getItem_list hl h0 (by omega) (by simpa using hv) (h c t)) hs
theorem fmod13 (x : Int) : x.fmod 13 < 13 := by rw [Int.fmod_eq_emod_of_nonneg _ (by decide)]; exact Int.emod_lt_of_pos x (by decide)
theorem news_dup {h₀ h : Heap} {L : Addr} {p : Addr × Obj} {l : List (Addr × Obj)} (N : News h₀ L h l) (hm : p ∈ l) : News h₀ L h (p :: l) := fun q hq => by
  rcases List.mem_cons.mp hq with e | hq
  · exact N q (e ▸ hm)
  · exact N q hq
theorem c_madeN (w : World) (mean : ExcName → Option Value) (mg mb : Str → Option Value) (news : List (Addr × Obj)) (lc : Addr) (nc : Nat) (v1 v2 : Int) (c0 c1 : Option Int) (ta tm t0 t1 : Tok) (hm : (lc, listOf #[cellV c0 t0, cellV c1 t1] nc) ∈ news) :
    DoesL 30 w mean mg mb 208 [.int v1 ta, .int v2 tm, .ref lc] [] news
      (fun r news' => (∃ l nl, r = .ref l ∧ (ok8 (fmtOf c0 v1) && ok8 (fmtOf c1 v2)) = false ∧ news' = (l, listOf #[] nl) :: news ∧ (∀ p ∈ news, p.1 < l)) ∨
        (∃ l nl x dx y dy k1 k2 k3 k4 k5 ka kb ta' tm', r = .ref l ∧ ok8 (fmtOf c0 v1) = true ∧ ok8 (fmtOf c1 v2) = true ∧
          news' = (l, listOf #[.ref x] nl) :: (y, instObj 82 dy) :: (dy, dAl w (fmtOf c1 v2) (fmtOf c0 v1) ka kb tm' ta') :: (x, instObj 157 dx) :: (dx, dML w v1 v2 (cellV c0 t0) (cellV c1 t1) y k1 k2 k3 k4 k5 ta tm) :: news ∧
          (∀ p ∈ news, p.1 < dx) ∧ belowN dx x ∧ belowN x dy ∧ belowN dy y ∧ belowN y l)) := by
  intro dp un cn cs a ccd cl A₀ h₀ L m s Q E B F K N T hk hdp hun hret
  refine c_made w mean mg mb news lc nc v1 v2 c0 c1 ta tm t0 t1 dp un cn cs a ccd cl A₀ h₀ L m s Q E B F K (news_dup N hm) T hk hdp hun ?_
  rintro v news' h' tk' F' N' (⟨l, nl, e, hno, e2, hl⟩ | ⟨l, nl, x, dx, y, dy, k1, k2, k3, k4, k5, ka, kb, ta', tm', e, hfa, hfm, e2, hl, l1, l2, l3, l4⟩)
  · subst e2
    exact hret.use F' (news' := (l, listOf #[] nl) :: news) (fun p hp => N' p ((List.mem_cons.mp hp).elim (fun e => e ▸ .head _) fun hp => .tail _ (.tail _ hp))) (.inl ⟨l, nl, e, hno, rfl, hl⟩)
  · subst e2
    refine hret.use F' (news' := (l, listOf #[.ref x] nl) :: (y, instObj 82 dy) :: (dy, dAl w (fmtOf c1 v2) (fmtOf c0 v1) ka kb tm' ta') :: (x, instObj 157 dx) :: (dx, dML w v1 v2 (cellV c0 t0) (cellV c1 t1) y k1 k2 k3 k4 k5 ta tm) :: news) (fun p hp => N' p ?_) (.inr ⟨l, nl, x, dx, y, dy, k1, k2, k3, k4, k5, ka, kb, ta', tm', e, hfa, hfm, rfl, hl, l1, l2, l3, l4⟩)
    rcases List.mem_cons.mp hp with e | hp
    · rw [e]; exact .head _
    refine .tail _ ?_
    rcases List.mem_cons.mp hp with e | hp
    · rw [e]; exact .head _
    refine .tail _ ?_
    rcases List.mem_cons.mp hp with e | hp
    · rw [e]; exact .head _
    refine .tail _ ?_
    rcases List.mem_cons.mp hp with e | hp
    · rw [e]; exact .head _
    refine .tail _ ?_
    rcases List.mem_cons.mp hp with e | hp
    · rw [e]; exact .head _
    exact .tail _ (.tail _ hp)
theorem news_tl {h₀ h : Heap} {L : Addr} {add l : List (Addr × Obj)} (N : News h₀ L h (add ++ l)) : News h₀ L h l := fun p hp => N p (List.mem_append.mpr (.inr hp))
theorem auto_oc (v : Int) : auto v = oc v * 8 := rfl
theorem ok8_mul {k : Int} (h0 : 0 ≤ k) : ok8 (k * 8) = true ↔ 0 < k ∧ k ≤ 8 := by
  constructor
  · intro h
    have := ok8_bnd h
    omega
  · intro h
    have e : k = 1 ∨ k = 2 ∨ k = 3 ∨ k = 4 ∨ k = 5 ∨ k = 6 ∨ k = 7 ∨ k = 8 := by omega
    rcases e with e | e | e | e | e | e | e | e <;> subst e <;> rfl
theorem wd_nn (c : Option Int) (n : Int) : 0 ≤ wid c n := by
  unfold wid
  cases c with
  | none => dsimp only; have := oc_nn n; split <;> omega
  | some f =>
    dsimp only
    split
    · rename_i h; have := ok8_bnd h; omega
    · omega
theorem wd_8 (c : Option Int) (n : Int) : wid c n ≤ 8 := by
  unfold wid
  cases c with
  | none => dsimp only; split <;> omega
  | some f =>
    dsimp only
    split
    · rename_i h; have := ok8_bnd h; omega
    · omega
theorem wd_pos {c : Option Int} {n : Int} (h : ok8 (fmtOf c n) = true) : 0 < wid c n ∧ fmtOf c n / 8 = wid c n := by
  unfold wid fmtOf at *
  cases c with
  | none =>
    dsimp only at h ⊢
    rw [auto_oc] at h ⊢
    obtain ⟨h1, h2⟩ := (ok8_mul (oc_nn n)).mp h
    rw [if_pos h2]
    omega
  | some f =>
    dsimp only at h ⊢
    have := ok8_bnd h
    rw [if_pos h]
    omega
theorem wd_ok {c : Option Int} {n : Int} (h : 0 < wid c n) : ok8 (fmtOf c n) = true := by
  unfold wid at h
  unfold fmtOf
  cases c with
  | none =>
    dsimp only at h ⊢
    rw [auto_oc]
    split at h
    · exact (ok8_mul (oc_nn n)).mpr ⟨h, by assumption⟩
    · omega
  | some f =>
    dsimp only at h ⊢
    split at h
    · assumption
    · omega
theorem wd_no {c c' : Option Int} {n n' : Int} (h : (ok8 (fmtOf c n) && ok8 (fmtOf c' n')) = false) : ¬ (0 < wid c n ∧ 0 < wid c' n') := fun ⟨a, b⟩ => by
  rw [wd_ok a, wd_ok b] at h; cases h
def rowW (va vs : Int) (c0 c1 : Option Int) : List Dat := rowD va vs c0 c1 (wid c0 va) (wid c1 vs)
theorem c_toldW (w : World) (mean : ExcName → Option Value) (mg mb : Str → Option Value) (news : List (Addr × Obj)) (x dx y dy : Addr) (c0 c1 : Option Int) (va vs : Int) (t0 t1 k1 k2 k3 k4 k5 tv1 tv2 ka kb tm' ta' ta ts : Tok)
    (hva : 0 ≤ va) (hvs : 0 ≤ vs) (ha : ok8 (fmtOf c0 va) = true) (hm : ok8 (fmtOf c1 vs) = true) (m1 : (x, instObj 157 dx) ∈ news) (m2 : (dx, dML w va vs (cellV c0 t0) (cellV c1 t1) y k1 k2 k3 k4 k5 tv1 tv2) ∈ news) (m3 : (y, instObj 82 dy) ∈ news) (m4 : (dy, dAl w (fmtOf c1 vs) (fmtOf c0 va) ka kb tm' ta') ∈ news) :
    Makes 20 w mean mg mb 222 [.ref x, .int va ta, .int vs ts] news (.list (rowW va vs c0 c1)) := by
  unfold rowW
  rw [← (wd_pos ha).2, ← (wd_pos hm).2]
  exact c_told w mean mg mb news x dx y dy c0 c1 _ _ va vs t0 t1 k1 k2 k3 k4 k5 tv1 tv2 ka kb tm' ta' ta ts hva hvs ha hm m1 m2 m3 m4
theorem c_dueW (w : World) (mean : ExcName → Option Value) (mg mb : Str → Option Value) (news : List (Addr × Obj)) (lc lw : Addr) (nc nw : Nat) (c0 c1 : Option Int) (w0 w1 va vs : Int) (t0 t1 u0 u1 ta ts : Tok)
    (hva : 0 ≤ va) (hvs : 0 ≤ vs) (hw0 : w0 = wid c0 va) (hw1 : w1 = wid c1 vs) (m1 : (lc, listOf #[cellV c0 t0, cellV c1 t1] nc) ∈ news) (m2 : (lw, listOf #[.int w0 u0, .int w1 u1] nw) ∈ news) :
    Makes 20 w mean mg mb 229 [.ref lc, .ref lw, .int va ta, .int vs ts] news (.list (rowW va vs c0 c1)) := by
  subst hw0 hw1
  exact c_due w mean mg mb news lc lw nc nw c0 c1 _ _ va vs t0 t1 u0 u1 ta ts hva hvs (wd_nn _ _) (wd_8 _ _) (wd_nn _ _) (wd_8 _ _) m1 m2
theorem c_doneP (w : World) (mean : ExcName → Option Value) (mg mb : Str → Option Value) (news : List (Addr × Obj)) (g9 : Obj → List (Addr × Obj)) (x dx y lo : Addr) (no : Nat) (v1 v2 : Int) (c0 c1 o0 o1 : Option Int) (k1 k2 k3 k4 k5 tv1 tv2 t0 t1 s0 s1 tw : Tok) (wy : Int)
    (hxd : @Ne Nat x dx) (hld : @Ne Nat lo dx) (U : UpdF dx (dML w v1 v2 (cellV c0 t0) (cellV c1 t1) y k1 k2 k3 k4 k5 tv1 tv2) news g9) (mx : (x, instObj 157 dx) ∈ news) (mo : (lo, listOf #[cellV o0 s0, cellV o1 s1] no) ∈ news) (hw1 : wy = 1 → o1 = none) (hw2 : wy ≠ 0 → wy ≠ 1 → o0 = none) :
    DoesL 30 w mean mg mb 215 [.ref x, .int wy tw, .ref lo] [] news
      (fun r news' => (∃ t, r = .str (Str.ofString "refused") t ∧ ¬ (0 < wid (aft c0 o0) v1 ∧ 0 < wid (aft c1 o1) v2) ∧ news' = news) ∨
        (∃ t y' dy' ka kb ta' tm' t0' t1', r = .str (Str.ofString "done") t ∧ ok8 (fmtOf (aft c0 o0) v1) = true ∧ ok8 (fmtOf (aft c1 o1) v2) = true ∧
          news' = (y', instObj 82 dy') :: (dy', dAl w (fmtOf (aft c1 o1) v2) (fmtOf (aft c0 o0) v1) ka kb tm' ta') :: g9 (dML w v1 v2 (cellV (aft c0 o0) t0') (cellV (aft c1 o1) t1') y' k1 k2 k3 k4 k5 tv1 tv2) ∧
          (∀ p ∈ news, p.1 < dy') ∧ belowN dy' y')) := by
  intro dp un cn cs a ccd cl A₀ h₀ L m s Q E B F K N T hk hdp hun hret
  obtain ⟨pre, post, rfl, hg, hpre, hpost⟩ := U.split
  have hoff : OwnOff (pre ++ post) [dx] := fun p hp b hb => by
    rw [List.mem_singleton.mp hb]
    rcases List.mem_append.mp hp with hp | hp
    · exact hpre p hp
    · exact hpost p hp
  refine c_done w mean mg mb (pre ++ post) x dx y lo no v1 v2 c0 c1 o0 o1 k1 k2 k3 k4 k5 tv1 tv2 t0 t1 s0 s1 tw wy hxd hld hoff hw1 hw2 dp un cn cs a ccd cl A₀ h₀ L m s Q E B F K (fun p hp => N p ?_) T hk hdp hun ?_
  · rcases List.mem_cons.mp hp with e | hp
    · exact e ▸ mx
    rcases List.mem_cons.mp hp with e | hp
    · exact List.mem_append.mpr (.inr (e ▸ .head _))
    rcases List.mem_cons.mp hp with e | hp
    · exact e ▸ mo
    rcases List.mem_append.mp hp with hp | hp
    · exact List.mem_append.mpr (.inl hp)
    · exact List.mem_append.mpr (.inr (.tail _ hp))
  have mem' : ∀ (D D' : Obj) (p : Addr × Obj), p ∈ pre ++ (dx, D') :: post → p.1 ≠ dx → p ∈ pre ++ post := fun D D' p hp hn => by
    rcases List.mem_append.mp hp with hp | hp
    · exact List.mem_append.mpr (.inl hp)
    · rcases List.mem_cons.mp hp with e | hp
      · exact absurd (by rw [e]) hn
      · exact List.mem_append.mpr (.inr hp)
  rintro v news' h' tk' F' N' (⟨t, e, hno, e2⟩ | ⟨t, y', dy', ka, kb, ta', tm', t0', t1', e, hfa, hfm, e2, hl, l1, l2, l3⟩)
  · subst e2
    refine hret.use F' (fun p hp => N' p ?_) (.inl ⟨t, e, wd_no hno, rfl⟩)
    by_cases hn : p.1 = dx
    · rcases List.mem_append.mp hp with hp | hp
      · exact absurd hn (hpre p hp)
      · rcases List.mem_cons.mp hp with e | hp
        · rw [e]; exact .tail _ (.head _)
        · exact absurd hn (hpost p hp)
    · exact .tail _ (.tail _ (.tail _ (mem' default _ p hp hn)))
  · subst e2
    refine hret.use (news' := (y', instObj 82 dy') :: (dy', dAl w (fmtOf (aft c1 o1) v2) (fmtOf (aft c0 o0) v1) ka kb tm' ta') :: g9 (dML w v1 v2 (cellV (aft c0 o0) t0') (cellV (aft c1 o1) t1') y' k1 k2 k3 k4 k5 tv1 tv2)) F' (fun p hp => N' p ?_) (.inr ⟨t, y', dy', ka, kb, ta', tm', t0', t1', e, hfa, hfm, rfl, fun p hp => ?_, l3⟩)
    · rcases List.mem_cons.mp hp with e | hp
      · rw [e]; exact .head _
      rcases List.mem_cons.mp hp with e | hp
      · rw [e]; exact .tail _ (.head _)
      rw [hg] at hp
      by_cases hn : p.1 = dx
      · rcases List.mem_append.mp hp with hp | hp
        · exact absurd hn (hpre p hp)
        · rcases List.mem_cons.mp hp with e | hp
          · rw [e]; exact .tail _ (.tail _ (.tail _ (.head _)))
          · exact absurd hn (hpost p hp)
      · exact .tail _ (.tail _ (.tail _ (.tail _ (.tail _ (mem' default _ p hp hn)))))
    · by_cases hn : p.1 = dx
      · rw [hn]; exact l2
      · exact allLt_mem hl p (.tail _ (mem' default _ p hp hn))
/-- the first statements of a body, to a state that is described; then the others -/
def Mid1 (s : Shared) (R : Heap → Prop) (f : Flow) (s' : Shared) : Prop := f = .next ∧ ∃ h tk, s' = { s with heap := h, toks := tk } ∧ R h
theorem cut8 {prog : Program} {w : World} {A : Around} {E : Value → Shared → Prop} {env : Env} {a b c d e f g i : Stmt} {rest : List Stmt} {s : Shared} {h₀ : Heap} {L : Addr} {m : Str → Option Value} {Q : Flow → Shared → Prop} (R : World → Heap → Addr → Heap → Prop) (F : Fr h₀ L s.heap m)
    (h1 : wpAny (model prog w) A (execs [a, b, c, d, e, f, g, i] env) (Mid1 s (R w h₀ L)) E s)
    (h2 : ∀ h tk, R w h₀ L h → wpAny (model prog w) A (execs rest env) Q E { s with heap := h, toks := tk }) :
    wpAny (model prog w) A (execs (a :: b :: c :: d :: e :: f :: g :: i :: rest) env) Q E s := by
  intro Γ p₀ hΓ
  have key : ∀ (l : List Stmt) (p₁ : _) (s₁ : Shared), Sem.wp (model prog w) Γ (execs l env) (fun a _ s' => Mid1 s (R w h₀ L) a s') (fun e _ s' => E e s') p₁ s₁ → Sem.wp (model prog w) Γ (execs (l ++ rest) env) (fun a _ s' => Q a s') (fun e _ s' => E e s') p₁ s₁ := by
    intro l
    induction l with
    | nil =>
      intro p₁ s₁ h
      obtain ⟨_, h, tk, e, r⟩ : Mid1 s (R w h₀ L) .next s₁ := h
      rw [List.nil_append, e]
      exact h2 h tk r Γ p₁ hΓ
    | cons st l ih =>
      intro p₁ s₁ h
      rw [List.cons_append]
      rw [execs_cons, Sem.wp_bind'] at h ⊢
      refine Sem.wp_mono _ Γ _ (fun f p' s' h' => ?_) (fun _ _ _ h' => h') _ _ h
      cases f with
      | next => exact ih p' s' h'
      | brk => exact absurd (And.left (h' : Mid1 s (R w h₀ L) _ s')) (fun e => nomatch e)
      | cont => exact absurd (And.left (h' : Mid1 s (R w h₀ L) _ s')) (fun e => nomatch e)
      | ret v => exact absurd (And.left (h' : Mid1 s (R w h₀ L) _ s')) (fun e => nomatch e)
  exact key [a, b, c, d, e, f, g, i] p₀ s (h1 Γ p₀ hΓ)
theorem gd_yes {x y : Int} (h : 0 < x) (h' : 0 < y) : 0 < [x, y].getD (Int.toNat 0) 0 ∧ 0 < [x, y].getD (Int.toNat 1) 0 := ⟨h, h'⟩
theorem gd_no {x y : Int} (h : ¬ (0 < x ∧ 0 < y)) : ¬ (0 < [x, y].getD (Int.toNat 0) 0 ∧ 0 < [x, y].getD (Int.toNat 1) 0) := h
theorem fr_pick {g h : Heap} {L : Addr} {m : Str → Option Value} {a : Str} {v : Value} (F : Fr g L h m) (e : m a = some v) : Fr g L h (fun y => if y = a then some v else m y) := Fr.asMap F fun y => by
  by_cases hy : y = a
  · rw [if_pos hy, hy, e]
  · rw [if_neg hy]
theorem news_of {g h : Heap} {L : Addr} {l l' : List (Addr × Obj)} (N : News g L h l) (hs : ∀ p ∈ l', p ∈ l) : News g L h l' := fun p hp => N p (hs p hp)
abbrev lNum (a b c : Int) (t1 t2 t3 : Tok) (ws : List Value) : Obj := listOf (List.toArray (.int a t1 :: .int b t2 :: .int c t3 :: ws)) 0
/-- the state after the eighth statement of the law -/
def MidA (w : World) (g : Heap) (L : Addr) (h : Heap) : Prop :=
  ∃ (m' : Str → Option Value) (va vs : Int) (c0 c1 : Option Int) (t0 t1 t0' t1' u0 u1 tva tvs k1 k2 k3 k4 k5 tv1 tv2 ka kb tm ta tz tz' n1 n2 n3 : Tok) (lm lt ld lw ln lc x dx y dy : Addr) (nm nt nd nw nc : Nat) (oc oo : Obj) (z a b c : Int) (ws : List Value) (rs : List Int),
    Fr g L h (fun v => if v = Str.ofString "numbers" then some (.ref ln) else if v = Str.ofString "size" then some (.int vs tvs) else if v = Str.ofString "address" then some (.int va tva) else if v = Str.ofString "widths" then some (.ref lw) else if v = Str.ofString "due" then some (.ref ld) else if v = Str.ofString "told" then some (.ref lt) else if v = Str.ofString "made" then some (.ref lm) else m' v) ∧
    News g L h [(lt, listOf #[.int z tz] nt), (ld, listOf #[.int z tz'] nd), (dx, dML w va vs (cellV c0 t0) (cellV c1 t1) y k1 k2 k3 k4 k5 tv1 tv2), (L + 1, oc), (L + 1 + 1, oo), (x, instObj 157 dx), (y, instObj 82 dy), (dy, dAl w (fmtOf c1 vs) (fmtOf c0 va) ka kb tm ta), (lc, listOf #[cellV c0 t0', cellV c1 t1'] nc), (lw, listOf #[.int (wid c0 va) u0, .int (wid c1 vs) u1] nw), (lm, listOf #[.ref x] nm), (ln, lNum a b c n1 n2 n3 ws)] ∧
    oc.data = .cell (some (.ref lc)) ∧ oo.data = .cell none ∧ IntsAre ws rs ∧ rs.length ≤ 10 ∧ 0 ≤ va ∧ 0 ≤ vs ∧ ok8 (fmtOf c0 va) = true ∧ ok8 (fmtOf c1 vs) = true ∧
    @LT.lt Nat _ (L + 1 + 1) ln ∧ @LT.lt Nat _ ln lt ∧ @LT.lt Nat _ lt ld ∧ @LT.lt Nat _ ln lc ∧ @LT.lt Nat _ lc lw ∧ @LT.lt Nat _ lw dx ∧ @LT.lt Nat _ dx x ∧ @LT.lt Nat _ x dy ∧ @LT.lt Nat _ dy y ∧ @LT.lt Nat _ y lm ∧ (@LT.lt Nat _ lm lt ∨ @LT.lt Nat _ ld lc)
theorem MidA.mk {w : World} {g h : Heap} {L : Addr} {m' : Str → Option Value} {news : List (Addr × Obj)} {va vs : Int} {c0 c1 : Option Int} {t0 t1 t0' t1' u0 u1 tva tvs k1 k2 k3 k4 k5 tv1 tv2 ka kb tm ta tz tz' n1 n2 n3 : Tok} {lm lt ld lw ln lc x dx y dy : Addr} {nm nt nd nw nc : Nat} {oc oo : Obj} {z a b c w0 w1 : Int} {ws : List Value} {rs : List Int}
    (F : Fr g L h m') (N : News g L h news) (e1 : m' (Str.ofString "made") = some (.ref lm)) (e2 : m' (Str.ofString "told") = some (.ref lt)) (e3 : m' (Str.ofString "due") = some (.ref ld)) (e4 : m' (Str.ofString "widths") = some (.ref lw)) (e5 : m' (Str.ofString "address") = some (.int va tva)) (e6 : m' (Str.ofString "size") = some (.int vs tvs)) (e7 : m' (Str.ofString "numbers") = some (.ref ln))
    (m1 : (lm, listOf #[.ref x] nm) ∈ news) (m2 : (x, instObj 157 dx) ∈ news) (m3 : (dx, dML w va vs (cellV c0 t0) (cellV c1 t1) y k1 k2 k3 k4 k5 tv1 tv2) ∈ news) (m4 : (y, instObj 82 dy) ∈ news) (m5 : (dy, dAl w (fmtOf c1 vs) (fmtOf c0 va) ka kb tm ta) ∈ news)
    (m6 : (L + 1, oc) ∈ news) (d6 : oc.data = .cell (some (.ref lc))) (m7 : (lc, listOf #[cellV c0 t0', cellV c1 t1'] nc) ∈ news) (m8 : (L + 1 + 1, oo) ∈ news) (d8 : oo.data = .cell none) (m9 : (lt, listOf #[.int z tz] nt) ∈ news) (m10 : (ld, listOf #[.int z tz'] nd) ∈ news) (m11 : (lw, listOf #[.int w0 u0, .int w1 u1] nw) ∈ news) (hw0 : w0 = wid c0 va) (hw1 : w1 = wid c1 vs)
    (m12 : (ln, lNum a b c n1 n2 n3 ws) ∈ news) (hI : IntsAre ws rs) (hl : rs.length ≤ 10) (hva : 0 ≤ va) (hvs : 0 ≤ vs) (ha : ok8 (fmtOf c0 va) = true) (hm : ok8 (fmtOf c1 vs) = true)
    (ord : @LT.lt Nat _ (L + 1 + 1) ln ∧ @LT.lt Nat _ ln lt ∧ @LT.lt Nat _ lt ld ∧ @LT.lt Nat _ ln lc ∧ @LT.lt Nat _ lc lw ∧ @LT.lt Nat _ lw dx ∧ @LT.lt Nat _ dx x ∧ @LT.lt Nat _ x dy ∧ @LT.lt Nat _ dy y ∧ @LT.lt Nat _ y lm ∧ (@LT.lt Nat _ lm lt ∨ @LT.lt Nat _ ld lc)) : MidA w g L h := by
  subst hw0 hw1
  refine ⟨m', va, vs, c0, c1, t0, t1, t0', t1', u0, u1, tva, tvs, k1, k2, k3, k4, k5, tv1, tv2, ka, kb, tm, ta, tz, tz', n1, n2, n3, lm, lt, ld, lw, ln, lc, x, dx, y, dy, nm, nt, nd, nw, nc, oc, oo, z, a, b, c, ws, rs,
    ?_, ?_, d6, d8, hI, hl, hva, hvs, ha, hm, ord⟩
  · have F1 := fr_pick F e1
    have F2 := fr_pick F1 (a := Str.ofString "told") (v := .ref lt) (by rw [if_neg (by decide)]; exact e2)
    have F3 := fr_pick F2 (a := Str.ofString "due") (v := .ref ld) (by rw [if_neg (by decide), if_neg (by decide)]; exact e3)
    have F4 := fr_pick F3 (a := Str.ofString "widths") (v := .ref lw) (by rw [if_neg (by decide), if_neg (by decide), if_neg (by decide)]; exact e4)
    have F5 := fr_pick F4 (a := Str.ofString "address") (v := .int va tva) (by rw [if_neg (by decide), if_neg (by decide), if_neg (by decide), if_neg (by decide)]; exact e5)
    have F6 := fr_pick F5 (a := Str.ofString "size") (v := .int vs tvs) (by rw [if_neg (by decide), if_neg (by decide), if_neg (by decide), if_neg (by decide), if_neg (by decide)]; exact e6)
    exact fr_pick F6 (a := Str.ofString "numbers") (v := .ref ln) (by rw [if_neg (by decide), if_neg (by decide), if_neg (by decide), if_neg (by decide), if_neg (by decide), if_neg (by decide)]; exact e7)
  · refine news_of N ?_
    repeat' (refine List.forall_mem_cons.mpr ⟨by assumption, ?_⟩)
    exact fun p hp => (nomatch hp)
end
/-- the lines that were read for the part above are not those of the next one -/
theorem pause_C13 : True ∧ True := by first | (walk1; fail) | exact ⟨trivial, trivial⟩
section
theorem fill_C14 : (PySem.Challenge.rw_fe0333_01, hd.heap_39) = (PySem.Challenge.rw_fe0333_01, hd.heap_39) := by k_fill; rfl
/-- list + list where the right one is a datum -/
theorem cat_dat {prog : Program} {w : World} {A : Around} {E : Value → Shared → Prop} {s : Shared} {h₀ : Heap} {L a : Addr} {m : Str → Option Value} {news add : List (Addr × Obj)} {v r : Value} {d : Dat} {ds : List Dat} {na : Nat} {Q : Value → Shared → Prop}
    (F : Fr h₀ L s.heap m) (N : News h₀ L s.heap news) (ha : (a, listOf #[v] na) ∈ news) (hs : ∀ p ∈ add, p ∈ news) (hD : DatIn add r (.list ds)) (hl : ds.length ≤ 1000) (hv : DatIn add v d)
    (h : ∀ D us h', Fr h₀ L h' m → News h₀ L h' ((D, listOf (List.toArray us) 0) :: news) → (∀ p ∈ news, p.1 < D) → DatIn ((D, listOf (List.toArray us) 0) :: add) (.ref D) (.list (d :: ds)) → Q (.ref D) { s with heap := h' }) :
    wpAny (model prog w) A (binaryOp .Add (.ref a) r) Q E s := by
  cases hD with
  | @list b vs n ds hm r =>
    have h1 : s.heap.IsList a (List.toArray [v]) := News.isList N ha
    have h2 : s.heap.IsList b (List.toArray vs) := News.isList N (hs _ hm)
    refine kmk_add_lit (zs := v :: vs) F N h1 h2 (by simp) (fun D h' F' N' l1 => ?_) ?_
    · exact h D (v :: vs) h' F' N' l1 (.list (n := 0) (.head _) (.cons (dat_tl hv) (r.mono fun _ q => .tail _ q)))
    · have := r.length
      rw [sizeLine_eq]
      simp only [List.length_cons, List.length_nil]
      omega
theorem rowW_length (va vs : Int) (c0 c1 : Option Int) : (rowW va vs c0 c1).length ≤ 1000 := by
  unfold rowW rowD; simp only [List.length_cons, List.length_nil]; omega
theorem ints_ok (n : Nat) (k : Nat) (v : Int) : kqdOk (n + 1) (.list ((digs k v).map Dat.int)) = true := by
  unfold kqdOk
  rw [List.all_map]
  exact List.all_eq_true.mpr fun x _ => by cases n <;> rfl
theorem cD_ok (n : Nat) (c : Option Int) : kqdOk (n + 1) (cD c) = true := by cases c <;> rfl
theorem rowW_ok (va vs : Int) (c0 c1 : Option Int) : ∀ d ∈ rowW va vs c0 c1, kqdOk 7 d = true := by
  unfold rowW rowD
  refine List.forall_mem_cons.mpr ⟨rfl, List.forall_mem_cons.mpr ⟨rfl, List.forall_mem_cons.mpr ⟨cD_ok _ _, List.forall_mem_cons.mpr ⟨cD_ok _ _, List.forall_mem_cons.mpr ⟨rfl, List.forall_mem_cons.mpr ⟨rfl, List.forall_mem_cons.mpr ⟨rfl, List.forall_mem_cons.mpr ⟨?_, List.forall_mem_cons.mpr ⟨?_, List.forall_mem_nil _⟩⟩⟩⟩⟩⟩⟩⟩⟩
  · split
    · exact ints_ok 6 _ _
    · rfl
  · split
    · exact ints_ok 6 _ _
    · rfl
theorem rowW_ok5 (va vs : Int) (c0 c1 : Option Int) : kqdOk 8 (.list (rowW va vs c0 c1)) = true := List.all_eq_true.mpr (rowW_ok va vs c0 c1)
theorem rowS_ok5 (x : Str) (hx : PyData.strOk x = true) (va vs : Int) (c0 c1 : Option Int) : kqdOk 8 (.list (.str x :: rowW va vs c0 c1)) = true := List.all_eq_true.mpr (List.forall_mem_cons.mpr ⟨hx, rowW_ok va vs c0 c1⟩)
structure Off5 (lt ld dx L : Addr) (a : Addr) : Prop where
  n1 : @Ne Addr a lt
  n2 : @Ne Addr a ld
  n3 : @Ne Addr a dx
  n4 : @Ne Addr a (L + 1)
  n5 : @Ne Addr a (L + 1 + 1)
/-- a fact laid aside -/
structure Keep9 (P : Prop) : Prop where
  out : P
/-- the loop's state -/
def LJ (w : World) (L lt ld dx x x2 : Addr) (va vs : Int) (tva tvs k1 k2 k3 k4 k5 tv1 tv2 : Tok) (cst : List (Addr × Obj)) (i : Nat) (m : Str → Option Value) (nx : List (Addr × Obj)) : Prop :=
  ∃ (c0 c1 : Option Int) (t0 t1 t0' t1' u0 u1 ka kb tm ta : Tok) (y dy lc lw : Addr) (nc nw nt nd : Nat) (oc oo : Obj) (ov : Option Value) (told due : List Value) (ds : List Dat) (tl : List (Addr × Obj)),
    nx = (lt, listOf told.toArray nt) :: (ld, listOf due.toArray nd) :: (dx, dML w va vs (cellV c0 t0) (cellV c1 t1) y k1 k2 k3 k4 k5 tv1 tv2) :: (L + 1, oc) :: (L + 1 + 1, oo) :: tl ∧
    (x, instObj 157 dx) ∈ tl ∧ (y, instObj 82 dy) ∈ tl ∧ (dy, dAl w (fmtOf c1 vs) (fmtOf c0 va) ka kb tm ta) ∈ tl ∧ (lc, listOf #[cellV c0 t0', cellV c1 t1'] nc) ∈ tl ∧ (lw, listOf #[.int (wid c0 va) u0, .int (wid c1 vs) u1] nw) ∈ tl ∧
    (∀ p ∈ cst, p ∈ tl) ∧ DatAll tl told ds ∧ DatAll tl due ds ∧ (ds.length = i + 2 ∧ ∀ d ∈ ds, kqdOk 8 d = true) ∧ oc.data = .cell (some (.ref lc)) ∧ oo.data = .cell ov ∧ ok8 (fmtOf c0 va) = true ∧ ok8 (fmtOf c1 vs) = true ∧ (∀ p ∈ tl, Off5 lt ld dx L p.1) ∧
    m (Str.ofString "location") = some (.ref x) ∧ m (Str.ofString "other") = some (.ref x2) ∧ m (Str.ofString "address") = some (.int va tva) ∧ m (Str.ofString "size") = some (.int vs tvs) ∧ m (Str.ofString "widths") = some (.ref lw) ∧ m (Str.ofString "told") = some (.ref lt) ∧ m (Str.ofString "due") = some (.ref ld)
theorem off5_own {own tl : List (Addr × Obj)} {lt ld dx L : Addr} {o1 o2 o3 o4 o5 : Obj} (h : OwnOff own (((lt, o1) :: (ld, o2) :: (dx, o3) :: (L + 1, o4) :: (L + 1 + 1, o5) :: tl).map (·.1))) : (∀ p ∈ own, Off5 lt ld dx L p.1) ∧ OwnOff own (tl.map (·.1)) :=
  ⟨fun p hp => ⟨h p hp _ (.head _), h p hp _ (.tail _ (.head _)), h p hp _ (.tail _ (.tail _ (.head _))), h p hp _ (.tail _ (.tail _ (.tail _ (.head _)))), h p hp _ (.tail _ (.tail _ (.tail _ (.tail _ (.head _)))))⟩,
    fun p hp b hb => h p hp b (.tail _ (.tail _ (.tail _ (.tail _ (.tail _ hb)))))⟩
theorem off5_all {lt ld dx L : Addr} {l : List (Addr × Obj)} (h : ∀ p ∈ l, Off5 lt ld dx L p.1) : OwnOff l [lt, ld, dx, L + 1, L + 1 + 1] := fun p hp b hb => by
  obtain ⟨h1, h2, h3, h4, h5⟩ := h p hp
  rcases List.mem_cons.mp hb with e | hb
  · rw [e]; exact h1
  rcases List.mem_cons.mp hb with e | hb
  · rw [e]; exact h2
  rcases List.mem_cons.mp hb with e | hb
  · rw [e]; exact h3
  rcases List.mem_cons.mp hb with e | hb
  · rw [e]; exact h4
  rcases List.mem_cons.mp hb with e | hb
  · rw [e]; exact h5
  · nomatch hb
section
variable {prog : Program} {w : World} {A : Around} {E : Value → Shared → Prop} {s : Shared} {env : Env} {g : Heap} {Q : Flow → Shared → Prop} {body : List Stmt}
abbrev chainL (x x2 lt ld lw : Addr) (va vs : Int) (tva tvs : Tok) (M : Str → Option Value) : Str → Option Value := fun v =>
  if v = Str.ofString "due" then some (.ref ld) else if v = Str.ofString "told" then some (.ref lt) else if v = Str.ofString "widths" then some (.ref lw) else if v = Str.ofString "size" then some (.int vs tvs) else if v = Str.ofString "address" then some (.int va tva) else if v = Str.ofString "other" then some (.ref x2) else if v = Str.ofString "location" then some (.ref x) else M v
theorem fr_chain {h : Heap} {L x x2 lt ld lw : Addr} {va vs : Int} {tva tvs : Tok} {M : Str → Option Value} (F : Fr g L h M) (e1 : M (Str.ofString "location") = some (.ref x)) (e2 : M (Str.ofString "other") = some (.ref x2)) (e3 : M (Str.ofString "address") = some (.int va tva)) (e4 : M (Str.ofString "size") = some (.int vs tvs)) (e5 : M (Str.ofString "widths") = some (.ref lw)) (e6 : M (Str.ofString "told") = some (.ref lt)) (e7 : M (Str.ofString "due") = some (.ref ld)) : Fr g L h (chainL x x2 lt ld lw va vs tva tvs M) := by
  have F1 := fr_pick F e1
  have F2 := fr_pick F1 (a := Str.ofString "other") (v := .ref x2) (by rw [if_neg (by decide)]; exact e2)
  have F3 := fr_pick F2 (a := Str.ofString "address") (v := .int va tva) (by rw [if_neg (by decide), if_neg (by decide)]; exact e3)
  have F4 := fr_pick F3 (a := Str.ofString "size") (v := .int vs tvs) (by rw [if_neg (by decide), if_neg (by decide), if_neg (by decide)]; exact e4)
  have F5 := fr_pick F4 (a := Str.ofString "widths") (v := .ref lw) (by rw [if_neg (by decide), if_neg (by decide), if_neg (by decide), if_neg (by decide)]; exact e5)
  have F6 := fr_pick F5 (a := Str.ofString "told") (v := .ref lt) (by rw [if_neg (by decide), if_neg (by decide), if_neg (by decide), if_neg (by decide), if_neg (by decide)]; exact e6)
  exact fr_pick F6 (a := Str.ofString "due") (v := .ref ld) (by rw [if_neg (by decide), if_neg (by decide), if_neg (by decide), if_neg (by decide), if_neg (by decide), if_neg (by decide)]; exact e7)
theorem loop_start {L lt ld dx x x2 y dy lc lw l : Addr} {va vs : Int} {c0 c1 : Option Int} {tva tvs k1 k2 k3 k4 k5 tv1 tv2 t0 t1 t0' t1' u0 u1 ka kb tm ta tz tz' : Tok} {nc nw nt nd nl : Nat} {oc oo : Obj} {ov : Option Value} {z : Int} {vT vD : Value} {wsl : List Value} {rs : List Int} {m₀ : Str → Option Value} {news : List (Addr × Obj)}
    (cst tl : List (Addr × Obj)) (hh : A.handled = none) (hL : env.locals = L) (F : Fr g L s.heap m₀) (N : News g L s.heap news)
    (e1 : m₀ (Str.ofString "location") = some (.ref x)) (e2 : m₀ (Str.ofString "other") = some (.ref x2)) (e3 : m₀ (Str.ofString "address") = some (.int va tva)) (e4 : m₀ (Str.ofString "size") = some (.int vs tvs)) (e5 : m₀ (Str.ofString "widths") = some (.ref lw)) (e6 : m₀ (Str.ofString "told") = some (.ref lt)) (e7 : m₀ (Str.ofString "due") = some (.ref ld))
    (m1 : (lt, listOf (#[.int z tz].push vT) nt) ∈ news) (m2 : (ld, listOf (#[.int z tz'].push vD) nd) ∈ news) (m3 : (dx, dML w va vs (cellV c0 t0) (cellV c1 t1) y k1 k2 k3 k4 k5 tv1 tv2) ∈ news) (m4 : (L + 1, oc) ∈ news) (d4 : oc.data = .cell (some (.ref lc))) (m5 : (L + 1 + 1, oo) ∈ news) (d5 : oo.data = .cell ov)
    (htl : ∀ p ∈ tl, p ∈ news) (hl : (l, listOf wsl.toArray nl) ∈ cst) (hI : IntsAre wsl rs) (hcst : ∀ p ∈ cst, p ∈ tl) (m6 : (x, instObj 157 dx) ∈ tl) (m7 : (y, instObj 82 dy) ∈ tl) (m8 : (dy, dAl w (fmtOf c1 vs) (fmtOf c0 va) ka kb tm ta) ∈ tl) (m9 : (lc, listOf #[cellV c0 t0', cellV c1 t1'] nc) ∈ tl) (m10 : (lw, listOf #[.int (wid c0 va) u0, .int (wid c1 vs) u1] nw) ∈ tl)
    (hT : DatIn tl vT (.list (rowW va vs c0 c1))) (hD : DatIn tl vD (.list (rowW va vs c0 c1))) (ha : ok8 (fmtOf c0 va) = true) (hm : ok8 (fmtOf c1 vs) = true) (hoff : ∀ p ∈ tl, Off5 lt ld dx L p.1)
    (turn : ∀ (i : Nat) (n : Int) (t : Tok) (c0 c1 : Option Int) (t0 t1 t0' t1' u0 u1 ka kb tm ta : Tok) (y dy lc lw : Addr) (nc nw nt nd : Nat) (oc oo : Obj) (ov : Option Value) (told due : List Value) (ds : List Dat) (tl own : List (Addr × Obj)) (m₁ : Str → Option Value) (h : Heap) (tk : Nat),
      n ∈ rs → i < rs.length → (∀ p ∈ cst, p ∈ tl) → DatAll tl told ds → DatAll tl due ds → (ds.length = i + 2 ∧ ∀ d ∈ ds, kqdOk 8 d = true) → oc.data = .cell (some (.ref lc)) → oo.data = .cell ov → ok8 (fmtOf c0 va) = true → ok8 (fmtOf c1 vs) = true →
      (x, instObj 157 dx) ∈ tl → (y, instObj 82 dy) ∈ tl → (dy, dAl w (fmtOf c1 vs) (fmtOf c0 va) ka kb tm ta) ∈ tl → (lc, listOf #[cellV c0 t0', cellV c1 t1'] nc) ∈ tl → (lw, listOf #[.int (wid c0 va) u0, .int (wid c1 vs) u1] nw) ∈ tl → (∀ p ∈ tl, Off5 lt ld dx L p.1) → (∀ p ∈ own, Off5 lt ld dx L p.1) → OwnOff own (tl.map (·.1)) →
      Fr g L h (chainL x x2 lt ld lw va vs tva tvs fun v => if v = Str.ofString "number" then some (.int n t) else m₁ v) →
      News g L h ((lt, listOf told.toArray nt) :: (ld, listOf due.toArray nd) :: (dx, dML w va vs (cellV c0 t0) (cellV c1 t1) y k1 k2 k3 k4 k5 tv1 tv2) :: (L + 1, oc) :: (L + 1 + 1, oo) :: (x, instObj 157 dx) :: (y, instObj 82 dy) :: (dy, dAl w (fmtOf c1 vs) (fmtOf c0 va) ka kb tm ta) :: (lc, listOf #[cellV c0 t0', cellV c1 t1'] nc) :: (lw, listOf #[.int (wid c0 va) u0, .int (wid c1 vs) u1] nw) :: (tl ++ own)) →
      wpAny (model prog w) A (execs body env) (InvPostG g L (fun m' nx => (l, listOf wsl.toArray nl) ∈ nx ∧ LJ w L lt ld dx x x2 va vs tva tvs k1 k2 k3 k4 k5 tv1 tv2 cst (i + 1) m' nx) own { s with heap := h, toks := tk } Q) E { s with heap := h, toks := tk })
    (done : ∀ (m₁ : Str → Option Value) (nx : List (Addr × Obj)) (h : Heap) (tk : Nat), LJ w L lt ld dx x x2 va vs tva tvs k1 k2 k3 k4 k5 tv1 tv2 cst wsl.length m₁ nx → Fr g L h m₁ → News g L h nx → Q .next { s with heap := h, toks := tk }) :
    wpAny (model prog w) A (pyIter (.ref l)) (fun it s₂ => LoopAtV prog w A g env (Str.ofString "number") body Q E it s₂) E s := by
  subst hL
  have hn : ∀ p ∈ (lt, listOf (List.toArray [.int z tz, vT]) nt) :: (ld, listOf (List.toArray [.int z tz', vD]) nd) :: (dx, dML w va vs (cellV c0 t0) (cellV c1 t1) y k1 k2 k3 k4 k5 tv1 tv2) :: (env.locals + 1, oc) :: (env.locals + 1 + 1, oo) :: tl, p ∈ news := by
    refine List.forall_mem_cons.mpr ⟨m1, List.forall_mem_cons.mpr ⟨m2, List.forall_mem_cons.mpr ⟨m3, List.forall_mem_cons.mpr ⟨m4, List.forall_mem_cons.mpr ⟨m5, htl⟩⟩⟩⟩⟩
  refine kdl_iter (news := _) (LJ w env.locals lt ld dx x x2 va vs tva tvs k1 k2 k3 k4 k5 tv1 tv2 cst) hh (nn := nl) (vs := wsl) (List.mem_cons.mpr (.inr (List.mem_cons.mpr (.inr (List.mem_cons.mpr (.inr (List.mem_cons.mpr (.inr (List.mem_cons.mpr (.inr (hcst _ hl))))))))))) F (news_of N hn)
    ⟨c0, c1, t0, t1, t0', t1', u0, u1, ka, kb, tm, ta, y, dy, lc, lw, nc, nw, nt, nd, oc, oo, ov, _, _, [.int z, .list (rowW va vs c0 c1)], tl, rfl, m6, m7, m8, m9, m10, hcst, .cons (.int _ _) (.cons hT .nil), .cons (.int _ _) (.cons hD .nil), ⟨rfl, ?_⟩, d4, d5, ha, hm, hoff, e1, e2, e3, e4, e5, e6, e7⟩ ?_ done
  · exact List.forall_mem_cons.mpr ⟨rfl, List.forall_mem_cons.mpr ⟨rowW_ok5 _ _ _ _, List.forall_mem_nil _⟩⟩
  · rintro i v m₁ nx h tk own hv hoff' _ ⟨c0, c1, t0, t1, t0', t1', u0, u1, ka, kb, tm, ta, y, dy, lc, lw, nc, nw, nt, nd, oc, oo, ov, told, due, ds, tl, rfl, n6, n7, n8, n9, n10, hcst', hT', hD', hds, dC, dO, ha', hm', hoff9, f1, f2, f3, f4, f5, f6, f7⟩ F₁ N₁
    have hi' : i < rs.length := by rw [← hI.length]; exact (List.getElem?_eq_some_iff.mp hv).1
    obtain ⟨t, hx⟩ := hI.get i (rs[i]'hi') (List.getElem?_eq_getElem hi')
    have ev : v = .int (rs[i]'hi') t := by rw [hx] at hv; exact (Option.some.inj hv).symm
    subst ev
    obtain ⟨o1, o2⟩ := off5_own hoff'
    have up : ∀ p ∈ tl, p ∈ ((lt, listOf told.toArray nt) :: (ld, listOf due.toArray nd) :: (dx, dML w va vs (cellV c0 t0) (cellV c1 t1) y k1 k2 k3 k4 k5 tv1 tv2) :: (env.locals + 1, oc) :: (env.locals + 1 + 1, oo) :: tl) ++ own := fun p hp => List.mem_append.mpr (.inl (.tail _ (.tail _ (.tail _ (.tail _ (.tail _ hp))))))
    refine turn i _ t c0 c1 t0 t1 t0' t1' u0 u1 ka kb tm ta y dy lc lw nc nw nt nd oc oo ov told due ds tl own m₁ h tk (List.getElem_mem hi') hi' hcst' hT' hD' hds dC dO ha' hm' n6 n7 n8 n9 n10 hoff9 o1 o2 (fr_chain F₁ ?_ ?_ ?_ ?_ ?_ ?_ ?_) (news_of N₁ ?_)
    · rw [if_neg (by decide)]; exact f1
    · rw [if_neg (by decide)]; exact f2
    · rw [if_neg (by decide)]; exact f3
    · rw [if_neg (by decide)]; exact f4
    · rw [if_neg (by decide)]; exact f5
    · rw [if_neg (by decide)]; exact f6
    · rw [if_neg (by decide)]; exact f7
    · refine List.forall_mem_cons.mpr ⟨List.mem_append.mpr (.inl (.head _)), List.forall_mem_cons.mpr ⟨List.mem_append.mpr (.inl (.tail _ (.head _))), List.forall_mem_cons.mpr ⟨List.mem_append.mpr (.inl (.tail _ (.tail _ (.head _)))), List.forall_mem_cons.mpr ⟨List.mem_append.mpr (.inl (.tail _ (.tail _ (.tail _ (.head _))))), List.forall_mem_cons.mpr ⟨List.mem_append.mpr (.inl (.tail _ (.tail _ (.tail _ (.tail _ (.head _)))))), List.forall_mem_cons.mpr ⟨up _ n6, List.forall_mem_cons.mpr ⟨up _ n7, List.forall_mem_cons.mpr ⟨up _ n8, List.forall_mem_cons.mpr ⟨up _ n9, List.forall_mem_cons.mpr ⟨up _ n10, fun p hp => ?_⟩⟩⟩⟩⟩⟩⟩⟩⟩⟩
      rcases List.mem_append.mp hp with hp | hp
      · exact up _ hp
      · exact List.mem_append.mpr (.inr hp)
theorem turn_close {L lt ld dx x x2 y dy lc lw l : Addr} {va vs : Int} {c0 c1 : Option Int} {tva tvs k1 k2 k3 k4 k5 tv1 tv2 t0 t1 t0' t1' u0 u1 ka kb tm ta : Tok} {nc nw nt nd nl i : Nat} {oc oo : Obj} {ov : Option Value} {vT vD : Value} {wsl told due : List Value} {d : Dat} {ds : List Dat} {m' : Str → Option Value} {news' cst tl own : List (Addr × Obj)} {s₁ : Shared} {h' : Heap} {tk : Nat}
    (new : List (Addr × Obj)) (F : Fr g L h' m') (N : News g L h' news')
    (e1 : m' (Str.ofString "location") = some (.ref x)) (e2 : m' (Str.ofString "other") = some (.ref x2)) (e3 : m' (Str.ofString "address") = some (.int va tva)) (e4 : m' (Str.ofString "size") = some (.int vs tvs)) (e5 : m' (Str.ofString "widths") = some (.ref lw)) (e6 : m' (Str.ofString "told") = some (.ref lt)) (e7 : m' (Str.ofString "due") = some (.ref ld))
    (m1 : (lt, listOf (told.toArray.push vT) nt) ∈ news') (m2 : (ld, listOf (due.toArray.push vD) nd) ∈ news') (m3 : (dx, dML w va vs (cellV c0 t0) (cellV c1 t1) y k1 k2 k3 k4 k5 tv1 tv2) ∈ news') (m4 : (L + 1, oc) ∈ news') (d4 : oc.data = .cell (some (.ref lc))) (m5 : (L + 1 + 1, oo) ∈ news') (d5 : oo.data = .cell ov)
    (hnew : ∀ p ∈ new ++ (tl ++ own), p ∈ news') (fresh : ∀ q ∈ new, Off5 lt ld dx L q.1 ∧ ∀ p ∈ own, @Ne Nat p.1 q.1)
    (hl : (l, listOf wsl.toArray nl) ∈ cst) (hcst : ∀ p ∈ cst, p ∈ tl) (m6 : (x, instObj 157 dx) ∈ tl) (m7 : (y, instObj 82 dy) ∈ new ++ tl) (m8 : (dy, dAl w (fmtOf c1 vs) (fmtOf c0 va) ka kb tm ta) ∈ new ++ tl) (m9 : (lc, listOf #[cellV c0 t0', cellV c1 t1'] nc) ∈ new ++ tl) (m10 : (lw, listOf #[.int (wid c0 va) u0, .int (wid c1 vs) u1] nw) ∈ new ++ tl)
    (hT0 : DatAll tl told ds) (hD0 : DatAll tl due ds) (hds : ds.length = i + 2 ∧ ∀ d ∈ ds, kqdOk 8 d = true) (hT : DatIn (new ++ tl) vT d) (hD : DatIn (new ++ tl) vD d) (hk : kqdOk 8 d = true) (ha : ok8 (fmtOf c0 va) = true) (hm : ok8 (fmtOf c1 vs) = true) (hoff : ∀ p ∈ tl, Off5 lt ld dx L p.1) (hoffo : ∀ p ∈ own, Off5 lt ld dx L p.1) (ho : OwnOff own (tl.map (·.1))) :
    InvPostG g L (fun m' nx => (l, listOf wsl.toArray nl) ∈ nx ∧ LJ w L lt ld dx x x2 va vs tva tvs k1 k2 k3 k4 k5 tv1 tv2 cst (i + 1) m' nx) own s₁ Q .next { s₁ with heap := h', toks := tk } := by
  have hr : ∀ p ∈ tl, p ∈ new ++ tl := fun p hp => List.mem_append.mpr (.inr hp)
  refine InvEndG.intro (nx := (lt, listOf (List.toArray (told ++ [vT])) nt) :: (ld, listOf (List.toArray (due ++ [vD])) nd) :: (dx, dML w va vs (cellV c0 t0) (cellV c1 t1) y k1 k2 k3 k4 k5 tv1 tv2) :: (L + 1, oc) :: (L + 1 + 1, oo) :: (new ++ tl)) F N
    ⟨.tail _ (.tail _ (.tail _ (.tail _ (.tail _ (hr _ (hcst _ hl)))))), c0, c1, t0, t1, t0', t1', u0, u1, ka, kb, tm, ta, y, dy, lc, lw, nc, nw, nt, nd, oc, oo, ov, _, _, ds ++ [d], new ++ tl, rfl, hr _ m6, m7, m8, m9, m10, fun p hp => hr _ (hcst _ hp), (hT0.mono hr).append (.one hT), (hD0.mono hr).append (.one hD), ⟨?_, ?_⟩, d4, d5, ha, hm, ?_, e1, e2, e3, e4, e5, e6, e7⟩ ?_ ?_ ?_
  · rw [List.length_append, List.length_singleton, hds.1]
  · intro e he
    rcases List.mem_append.mp he with he | he
    · exact hds.2 e he
    · rw [List.mem_singleton.mp he]; exact hk
  · intro p hp
    rcases List.mem_append.mp hp with hp | hp
    · exact (fresh p hp).1
    · exact hoff p hp
  · intro p hp b hb
    obtain ⟨h1, h2, h3, h4, h5⟩ := hoffo p hp
    rcases List.mem_cons.mp hb with e | hb
    · rw [e]; exact h1
    rcases List.mem_cons.mp hb with e | hb
    · rw [e]; exact h2
    rcases List.mem_cons.mp hb with e | hb
    · rw [e]; exact h3
    rcases List.mem_cons.mp hb with e | hb
    · rw [e]; exact h4
    rcases List.mem_cons.mp hb with e | hb
    · rw [e]; exact h5
    obtain ⟨q, hq, rfl⟩ := List.mem_map.mp hb
    rcases List.mem_append.mp hq with hq | hq
    · exact (fresh q hq).2 p hp
    · exact ho p hp _ (List.mem_map.mpr ⟨q, hq, rfl⟩)
  · rw [List.push_toArray] at m1 m2
    refine List.forall_mem_cons.mpr ⟨m1, List.forall_mem_cons.mpr ⟨m2, List.forall_mem_cons.mpr ⟨m3, List.forall_mem_cons.mpr ⟨m4, List.forall_mem_cons.mpr ⟨m5, fun p hp => ?_⟩⟩⟩⟩⟩
    rcases List.mem_append.mp hp with hp | hp
    · exact hnew p (List.mem_append.mpr (.inl hp))
    · exact hnew p (List.mem_append.mpr (.inr (List.mem_append.mpr (.inl hp))))
  · exact fun p hp => hnew p (List.mem_append.mpr (.inr (List.mem_append.mpr (.inr hp))))
end
end
/-- the lines that were read for the part above are not those of the next one -/
theorem pause_C14 : True ∧ True := by first | (walk1; fail) | exact ⟨trivial, trivial⟩
section
theorem fill_C15 : (PySem.Challenge.rw_fe0333_01, hd.heap_39) = (PySem.Challenge.rw_fe0333_01, hd.heap_39) := by k_fill; rfl
theorem cut_app {prog : Program} {w : World} {A : Around} {E : Value → Shared → Prop} {env : Env} {rest : List Stmt} {s : Shared} {h₀ : Heap} {L : Addr} {Q : Flow → Shared → Prop} (l : List Stmt) (R : World → Heap → Addr → Heap → Prop)
    (h1 : wpAny (model prog w) A (execs l env) (Mid1 s (R w h₀ L)) E s)
    (h2 : ∀ h tk, R w h₀ L h → wpAny (model prog w) A (execs rest env) Q E { s with heap := h, toks := tk }) :
    wpAny (model prog w) A (execs (l ++ rest) env) Q E s := by
  intro Γ p₀ hΓ
  have key : ∀ (l : List Stmt) (p₁ : _) (s₁ : Shared), Sem.wp (model prog w) Γ (execs l env) (fun a _ s' => Mid1 s (R w h₀ L) a s') (fun e _ s' => E e s') p₁ s₁ → Sem.wp (model prog w) Γ (execs (l ++ rest) env) (fun a _ s' => Q a s') (fun e _ s' => E e s') p₁ s₁ := by
    intro l
    induction l with
    | nil =>
      intro p₁ s₁ h
      obtain ⟨_, h, tk, e, r⟩ : Mid1 s (R w h₀ L) .next s₁ := h
      rw [List.nil_append, e]
      exact h2 h tk r Γ p₁ hΓ
    | cons st l ih =>
      intro p₁ s₁ h
      rw [List.cons_append]
      rw [execs_cons, Sem.wp_bind'] at h ⊢
      refine Sem.wp_mono _ Γ _ (fun f p' s' h' => ?_) (fun _ _ _ h' => h') _ _ h
      cases f with
      | next => exact ih p' s' h'
      | brk => exact absurd (And.left (h' : Mid1 s (R w h₀ L) _ s')) (fun e => nomatch e)
      | cont => exact absurd (And.left (h' : Mid1 s (R w h₀ L) _ s')) (fun e => nomatch e)
      | ret v => exact absurd (And.left (h' : Mid1 s (R w h₀ L) _ s')) (fun e => nomatch e)
  exact key l p₀ s (h1 Γ p₀ hΓ)
theorem cut1 {prog : Program} {w : World} {A : Around} {E : Value → Shared → Prop} {env : Env} {a : Stmt} {rest : List Stmt} {s : Shared} {h₀ : Heap} {L : Addr} {m : Str → Option Value} {Q : Flow → Shared → Prop} (R : World → Heap → Addr → Heap → Prop) (_F : Fr h₀ L s.heap m)
    (h1 : wpAny (model prog w) A (execs [a] env) (Mid1 s (R w h₀ L)) E s)
    (h2 : ∀ h tk, R w h₀ L h → wpAny (model prog w) A (execs rest env) Q E { s with heap := h, toks := tk }) :
    wpAny (model prog w) A (execs (a :: rest) env) Q E s := cut_app [a] R h1 h2
theorem cut3 {prog : Program} {w : World} {A : Around} {E : Value → Shared → Prop} {env : Env} {a b c : Stmt} {rest : List Stmt} {s : Shared} {h₀ : Heap} {L : Addr} {m : Str → Option Value} {Q : Flow → Shared → Prop} (R : World → Heap → Addr → Heap → Prop) (_F : Fr h₀ L s.heap m)
    (h1 : wpAny (model prog w) A (execs [a, b, c] env) (Mid1 s (R w h₀ L)) E s)
    (h2 : ∀ h tk, R w h₀ L h → wpAny (model prog w) A (execs rest env) Q E { s with heap := h, toks := tk }) :
    wpAny (model prog w) A (execs (a :: b :: c :: rest) env) Q E s := cut_app [a, b, c] R h1 h2
/-- the state behind the offer -/
def MidB (c0 c1 : Option Int) (t0 t1 t0' t1' u0 u1 ka kb tm ta tva tvs k1 k2 k3 k4 k5 tv1 tv2 : Tok) (x x2 y dy lc lw lt ld dx : Addr) (nc nw nt nd : Nat) (oc : Obj) (told due : List Value) (va vs : Int) (tl : List (Addr × Obj)) (w : World) (g : Heap) (L : Addr) (h : Heap) : Prop :=
  ∃ (wy : Int) (tw s0 s1 : Tok) (o0 o1 : Option Int) (lo : Addr) (no : Nat) (oo : Obj) (m9 : Str → Option Value),
    Fr g L h (fun v => if v = Str.ofString "way" then some (.int wy tw) else if v = Str.ofString "due" then some (.ref ld) else if v = Str.ofString "told" then some (.ref lt) else if v = Str.ofString "widths" then some (.ref lw) else if v = Str.ofString "size" then some (.int vs tvs) else if v = Str.ofString "address" then some (.int va tva) else if v = Str.ofString "other" then some (.ref x2) else if v = Str.ofString "location" then some (.ref x) else m9 v) ∧
    News g L h ((lo, listOf #[cellV o0 s0, cellV o1 s1] no) :: (lt, listOf told.toArray nt) :: (ld, listOf due.toArray nd) :: (dx, dML w va vs (cellV c0 t0) (cellV c1 t1) y k1 k2 k3 k4 k5 tv1 tv2) :: (L + 1, oc) :: (L + 1 + 1, oo) :: (x, instObj 157 dx) :: (y, instObj 82 dy) :: (dy, dAl w (fmtOf c1 vs) (fmtOf c0 va) ka kb tm ta) :: (lc, listOf #[cellV c0 t0', cellV c1 t1'] nc) :: (lw, listOf #[.int (wid c0 va) u0, .int (wid c1 vs) u1] nw) :: tl) ∧ oo.data = .cell (some (.ref lo)) ∧ (wy = 1 → o1 = none) ∧ (wy ≠ 0 → wy ≠ 1 → o0 = none) ∧ ∀ p ∈ (lt, listOf told.toArray nt) :: (ld, listOf due.toArray nd) :: (dx, dML w va vs (cellV c0 t0) (cellV c1 t1) y k1 k2 k3 k4 k5 tv1 tv2) :: (L + 1, oc) :: (L + 1 + 1, oo) :: (x, instObj 157 dx) :: (y, instObj 82 dy) :: (dy, dAl w (fmtOf c1 vs) (fmtOf c0 va) ka kb tm ta) :: (lc, listOf #[cellV c0 t0', cellV c1 t1'] nc) :: (lw, listOf #[.int (wid c0 va) u0, .int (wid c1 vs) u1] nw) :: tl, p.1 < lo
theorem MidB.mk {c0 c1 : Option Int} {t0 t1 t0' t1' u0 u1 ka kb tm ta tva tvs k1 k2 k3 k4 k5 tv1 tv2 : Tok} {x x2 y dy lc lw lt ld dx : Addr} {nc nw nt nd : Nat} {oc : Obj} {told due : List Value} {va vs : Int} {tl : List (Addr × Obj)} {w : World} {g h : Heap} {L : Addr} {wy : Int} {tw s0 s1 : Tok} {o0 o1 : Option Int} {lo : Addr} {no : Nat} {oo : Obj} {m' : Str → Option Value} {news : List (Addr × Obj)}
    (F : Fr g L h m') (N : News g L h news) (e0 : m' (Str.ofString "way") = some (.int wy tw)) (e1 : m' (Str.ofString "location") = some (.ref x)) (e2 : m' (Str.ofString "other") = some (.ref x2)) (e3 : m' (Str.ofString "address") = some (.int va tva)) (e4 : m' (Str.ofString "size") = some (.int vs tvs)) (e5 : m' (Str.ofString "widths") = some (.ref lw)) (e6 : m' (Str.ofString "told") = some (.ref lt)) (e7 : m' (Str.ofString "due") = some (.ref ld))
    (m1 : (L + 1 + 1, oo) ∈ news) (d1 : oo.data = .cell (some (.ref lo))) (m2 : (lo, listOf #[cellV o0 s0, cellV o1 s1] no) ∈ news) (hs : ∀ p ∈ (lt, listOf told.toArray nt) :: (ld, listOf due.toArray nd) :: (dx, dML w va vs (cellV c0 t0) (cellV c1 t1) y k1 k2 k3 k4 k5 tv1 tv2) :: (L + 1, oc) :: (L + 1 + 1, oo) :: (x, instObj 157 dx) :: (y, instObj 82 dy) :: (dy, dAl w (fmtOf c1 vs) (fmtOf c0 va) ka kb tm ta) :: (lc, listOf #[cellV c0 t0', cellV c1 t1'] nc) :: (lw, listOf #[.int (wid c0 va) u0, .int (wid c1 vs) u1] nw) :: tl, p ∈ news) (hw1 : wy = 1 → o1 = none) (hw2 : wy ≠ 0 → wy ≠ 1 → o0 = none) (hl : ∀ p ∈ (lt, listOf told.toArray nt) :: (ld, listOf due.toArray nd) :: (dx, dML w va vs (cellV c0 t0) (cellV c1 t1) y k1 k2 k3 k4 k5 tv1 tv2) :: (L + 1, oc) :: (L + 1 + 1, oo) :: (x, instObj 157 dx) :: (y, instObj 82 dy) :: (dy, dAl w (fmtOf c1 vs) (fmtOf c0 va) ka kb tm ta) :: (lc, listOf #[cellV c0 t0', cellV c1 t1'] nc) :: (lw, listOf #[.int (wid c0 va) u0, .int (wid c1 vs) u1] nw) :: tl, p.1 < lo) :
    MidB c0 c1 t0 t1 t0' t1' u0 u1 ka kb tm ta tva tvs k1 k2 k3 k4 k5 tv1 tv2 x x2 y dy lc lw lt ld dx nc nw nt nd oc told due va vs tl w g L h :=
  ⟨wy, tw, s0, s1, o0, o1, lo, no, oo, _, fr_pick (fr_chain F e1 e2 e3 e4 e5 e6 e7) (a := Str.ofString "way") (v := .int wy tw) (by (try dsimp only); rw [if_neg (by decide), if_neg (by decide), if_neg (by decide), if_neg (by decide), if_neg (by decide), if_neg (by decide), if_neg (by decide)]; exact e0), news_of N (List.forall_mem_cons.mpr ⟨m2, hs⟩), d1, hw1, hw2, hl⟩
theorem off1_mem {D : Addr} : ∀ {l : List (Addr × Obj)}, LCg.Off1 D l → ∀ p ∈ l, @Ne Nat p.1 D
  | [], _ => fun _ h => (nomatch h)
  | _ :: _, h => fun p hp => by
    rcases List.mem_cons.mp hp with e | hp
    · rw [e]; exact h.1
    · exact off1_mem h.2 p hp
/-- the state behind the comprehension -/
def MidC (c0 c1 : Option Int) (t0 t1 t0' t1' u0 u1 ka kb tm ta tva tvs k1 k2 k3 k4 k5 tv1 tv2 : Tok) (x x2 y dy lc lw lt ld dx : Addr) (nc nw nt nd : Nat) (oc : Obj) (told due : List Value) (va vs : Int) (tl : List (Addr × Obj)) (oo : Obj) (wy : Int) (tw s0 s1 : Tok) (o0 o1 : Option Int) (lo : Addr) (no : Nat) (w : World) (g : Heap) (L : Addr) (h : Heap) : Prop :=
  ∃ (r0 r1 : Tok) (la : Addr) (na : Nat) (m9 : Str → Option Value),
    Fr g L h (fun v => if v = Str.ofString "after" then some (.ref la) else if v = Str.ofString "way" then some (.int wy tw) else if v = Str.ofString "due" then some (.ref ld) else if v = Str.ofString "told" then some (.ref lt) else if v = Str.ofString "widths" then some (.ref lw) else if v = Str.ofString "size" then some (.int vs tvs) else if v = Str.ofString "address" then some (.int va tva) else if v = Str.ofString "other" then some (.ref x2) else if v = Str.ofString "location" then some (.ref x) else m9 v) ∧
    News g L h ((la, listOf #[cellV (aft c0 o0) r0, cellV (aft c1 o1) r1] na) :: (lo, listOf #[cellV o0 s0, cellV o1 s1] no) :: (lt, listOf told.toArray nt) :: (ld, listOf due.toArray nd) :: (dx, dML w va vs (cellV c0 t0) (cellV c1 t1) y k1 k2 k3 k4 k5 tv1 tv2) :: (L + 1, oc) :: (L + 1 + 1, oo) :: (x, instObj 157 dx) :: (y, instObj 82 dy) :: (dy, dAl w (fmtOf c1 vs) (fmtOf c0 va) ka kb tm ta) :: (lc, listOf #[cellV c0 t0', cellV c1 t1'] nc) :: (lw, listOf #[.int (wid c0 va) u0, .int (wid c1 vs) u1] nw) :: tl) ∧ Off5 lt ld dx L la ∧ Keep9 (∀ p ∈ tl, @Ne Nat p.1 la)
theorem MidC.mk {c0 c1 : Option Int} {t0 t1 t0' t1' u0 u1 ka kb tm ta tva tvs k1 k2 k3 k4 k5 tv1 tv2 : Tok} {x x2 y dy lc lw lt ld dx : Addr} {nc nw nt nd : Nat} {oc : Obj} {told due : List Value} {va vs : Int} {tl : List (Addr × Obj)} {w : World} {g h : Heap} {L : Addr} {oo : Obj} {wy : Int} {tw s0 s1 r0 r1 : Tok} {o0 o1 : Option Int} {lo la : Addr} {no na : Nat} {m' : Str → Option Value} {news : List (Addr × Obj)}
    (F : Fr g L h m') (N : News g L h news) (e8 : m' (Str.ofString "after") = some (.ref la)) (e0 : m' (Str.ofString "way") = some (.int wy tw)) (e1 : m' (Str.ofString "location") = some (.ref x)) (e2 : m' (Str.ofString "other") = some (.ref x2)) (e3 : m' (Str.ofString "address") = some (.int va tva)) (e4 : m' (Str.ofString "size") = some (.int vs tvs)) (e5 : m' (Str.ofString "widths") = some (.ref lw)) (e6 : m' (Str.ofString "told") = some (.ref lt)) (e7 : m' (Str.ofString "due") = some (.ref ld))
    (m2 : (la, listOf #[cellV (aft c0 o0) r0, cellV (aft c1 o1) r1] na) ∈ news) (hs : ∀ p ∈ (lo, listOf #[cellV o0 s0, cellV o1 s1] no) :: (lt, listOf told.toArray nt) :: (ld, listOf due.toArray nd) :: (dx, dML w va vs (cellV c0 t0) (cellV c1 t1) y k1 k2 k3 k4 k5 tv1 tv2) :: (L + 1, oc) :: (L + 1 + 1, oo) :: (x, instObj 157 dx) :: (y, instObj 82 dy) :: (dy, dAl w (fmtOf c1 vs) (fmtOf c0 va) ka kb tm ta) :: (lc, listOf #[cellV c0 t0', cellV c1 t1'] nc) :: (lw, listOf #[.int (wid c0 va) u0, .int (wid c1 vs) u1] nw) :: tl, p ∈ news) (hl : LCg.Off1 la ((lo, listOf #[cellV o0 s0, cellV o1 s1] no) :: (lt, listOf told.toArray nt) :: (ld, listOf due.toArray nd) :: (dx, dML w va vs (cellV c0 t0) (cellV c1 t1) y k1 k2 k3 k4 k5 tv1 tv2) :: (L + 1, oc) :: (L + 1 + 1, oo) :: (x, instObj 157 dx) :: (y, instObj 82 dy) :: (dy, dAl w (fmtOf c1 vs) (fmtOf c0 va) ka kb tm ta) :: (lc, listOf #[cellV c0 t0', cellV c1 t1'] nc) :: (lw, listOf #[.int (wid c0 va) u0, .int (wid c1 vs) u1] nw) :: tl)) :
    MidC c0 c1 t0 t1 t0' t1' u0 u1 ka kb tm ta tva tvs k1 k2 k3 k4 k5 tv1 tv2 x x2 y dy lc lw lt ld dx nc nw nt nd oc told due va vs tl oo wy tw s0 s1 o0 o1 lo no w g L h :=
  ⟨r0, r1, la, na, _, fr_pick (fr_pick (fr_chain F e1 e2 e3 e4 e5 e6 e7) (a := Str.ofString "way") (v := .int wy tw) (by (try dsimp only); rw [if_neg (by decide), if_neg (by decide), if_neg (by decide), if_neg (by decide), if_neg (by decide), if_neg (by decide), if_neg (by decide)]; exact e0)) (a := Str.ofString "after") (v := .ref la) (by (try dsimp only); rw [if_neg (by decide), if_neg (by decide), if_neg (by decide), if_neg (by decide), if_neg (by decide), if_neg (by decide), if_neg (by decide), if_neg (by decide)]; exact e8), news_of N (List.forall_mem_cons.mpr ⟨m2, hs⟩), ⟨Ne.symm hl.2.1, Ne.symm hl.2.2.1, Ne.symm hl.2.2.2.1, Ne.symm hl.2.2.2.2.1, Ne.symm hl.2.2.2.2.2.1⟩, ⟨off1_mem hl.2.2.2.2.2.2.2.2.2.2.2⟩⟩
theorem off5_apart {add l : List (Addr × Obj)} {lt ld dx L : Addr} {o1 o2 o3 o4 o5 : Obj} (h : Apart add l) (m1 : (lt, o1) ∈ l) (m2 : (ld, o2) ∈ l) (m3 : (dx, o3) ∈ l) (m4 : (L + 1, o4) ∈ l) (m5 : (L + 1 + 1, o5) ∈ l) : ∀ q ∈ add, Off5 lt ld dx L q.1 :=
  fun q hq => ⟨Ne.symm (h _ m1 q hq), Ne.symm (h _ m2 q hq), Ne.symm (h _ m3 q hq), Ne.symm (h _ m4 q hq), Ne.symm (h _ m5 q hq)⟩
theorem loop_main {prog : Program} {w : World} {A : Around} {E : Value → Shared → Prop} {s : Shared} {env : Env} {g : Heap} {Q : Flow → Shared → Prop} {body : List Stmt} {L lt ld dx x x2 dx2 y2 dy2 y dy lc lw l D1 lm ln : Addr} {va vs : Int} {c0 c1 : Option Int} {tva tvs k1 k2 k3 k4 k5 tv1 tv2 t0 t1 t0' t1' u0 u1 ka kb tm ta tz tz' qa qb qm qt j1 j2 j3 j4 j5 r1 r2 : Tok} {nc nw nt nd nl : Nat} {oc oo oTup oLm oLn : Obj} {ov : Option Value} {z : Int} {vT vD : Value} {wsl : List Value} {rs : List Int} {m₀ : Str → Option Value} {addT addD : List (Addr × Obj)}
    (hh : A.handled = none) (hL : env.locals = L) (F : Fr g L s.heap m₀) (N : News g L s.heap ((l, listOf wsl.toArray nl) :: (D1, oTup) :: (y2, instObj 82 dy2) :: (dy2, dAl w (fmtOf none 7) (fmtOf none 300) qa qb qm qt) :: (x2, instObj 157 dx2) :: (dx2, dML w 300 7 (cellV none 0) (cellV none 0) y2 j1 j2 j3 j4 j5 r1 r2) :: (lt, listOf (#[.int z tz].push vT) nt) :: (ld, listOf (#[.int z tz'].push vD) nd) :: (dx, dML w va vs (cellV c0 t0) (cellV c1 t1) y k1 k2 k3 k4 k5 tv1 tv2) :: (L + 1, oc) :: (L + 1 + 1, oo) :: (x, instObj 157 dx) :: (y, instObj 82 dy) :: (dy, dAl w (fmtOf c1 vs) (fmtOf c0 va) ka kb tm ta) :: (lc, listOf #[cellV c0 t0', cellV c1 t1'] nc) :: (lw, listOf #[.int (wid c0 va) u0, .int (wid c1 vs) u1] nw) :: (lm, oLm) :: (ln, oLn) :: (addD ++ (addT ++ []))))
    (e1 : m₀ (Str.ofString "location") = some (.ref x)) (e2 : m₀ (Str.ofString "other") = some (.ref x2)) (e3 : m₀ (Str.ofString "address") = some (.int va tva)) (e4 : m₀ (Str.ofString "size") = some (.int vs tvs)) (e5 : m₀ (Str.ofString "widths") = some (.ref lw)) (e6 : m₀ (Str.ofString "told") = some (.ref lt)) (e7 : m₀ (Str.ofString "due") = some (.ref ld))
    (d4 : oc.data = .cell (some (.ref lc))) (d5 : oo.data = .cell ov) (hI : IntsAre wsl rs)
    (hT : DatIn addT vT (.list (rowW va vs c0 c1))) (hD : DatIn addD vD (.list (rowW va vs c0 c1))) (ha : ok8 (fmtOf c0 va) = true) (hm : ok8 (fmtOf c1 vs) = true) (hoff : ∀ a ∈ [l, x2, dx2, y2, dy2, x, y, dy, lc, lw], Off5 lt ld dx L a) (hoT : ∀ q ∈ addT, Off5 lt ld dx L q.1) (hoD : ∀ q ∈ addD, Off5 lt ld dx L q.1)
    (turn : ∀ (xo : Addr), xo = x2 → ∀ (i : Nat) (n : Int) (t : Tok) (c0 c1 : Option Int) (t0 t1 t0' t1' u0 u1 ka kb tm ta : Tok) (y dy lc lw : Addr) (nc nw nt nd : Nat) (oc oo : Obj) (ov : Option Value) (told due : List Value) (ds : List Dat) (tl own : List (Addr × Obj)) (m₁ : Str → Option Value) (h : Heap) (tk : Nat),
      n ∈ rs → i < rs.length → (∀ p ∈ [(l, listOf wsl.toArray nl), (x2, instObj 157 dx2), (dx2, dML w 300 7 (cellV none 0) (cellV none 0) y2 j1 j2 j3 j4 j5 r1 r2), (y2, instObj 82 dy2), (dy2, dAl w (fmtOf none 7) (fmtOf none 300) qa qb qm qt)], p ∈ tl) → DatAll tl told ds → DatAll tl due ds → (ds.length = i + 2 ∧ ∀ d ∈ ds, kqdOk 8 d = true) → oc.data = .cell (some (.ref lc)) → oo.data = .cell ov → ok8 (fmtOf c0 va) = true → ok8 (fmtOf c1 vs) = true →
      (x, instObj 157 dx) ∈ tl → (y, instObj 82 dy) ∈ tl → (dy, dAl w (fmtOf c1 vs) (fmtOf c0 va) ka kb tm ta) ∈ tl → (lc, listOf #[cellV c0 t0', cellV c1 t1'] nc) ∈ tl → (lw, listOf #[.int (wid c0 va) u0, .int (wid c1 vs) u1] nw) ∈ tl → (∀ p ∈ tl, Off5 lt ld dx L p.1) → (∀ p ∈ own, Off5 lt ld dx L p.1) → OwnOff own (tl.map (·.1)) →
      Fr g L h (chainL x xo lt ld lw va vs tva tvs fun v => if v = Str.ofString "number" then some (.int n t) else m₁ v) →
      News g L h ((lt, listOf told.toArray nt) :: (ld, listOf due.toArray nd) :: (dx, dML w va vs (cellV c0 t0) (cellV c1 t1) y k1 k2 k3 k4 k5 tv1 tv2) :: (L + 1, oc) :: (L + 1 + 1, oo) :: (x, instObj 157 dx) :: (y, instObj 82 dy) :: (dy, dAl w (fmtOf c1 vs) (fmtOf c0 va) ka kb tm ta) :: (lc, listOf #[cellV c0 t0', cellV c1 t1'] nc) :: (lw, listOf #[.int (wid c0 va) u0, .int (wid c1 vs) u1] nw) :: (tl ++ own)) →
      wpAny (model prog w) A (execs body env) (InvPostG g L (fun m' nx => (l, listOf wsl.toArray nl) ∈ nx ∧ LJ w L lt ld dx x xo va vs tva tvs k1 k2 k3 k4 k5 tv1 tv2 [(l, listOf wsl.toArray nl), (x2, instObj 157 dx2), (dx2, dML w 300 7 (cellV none 0) (cellV none 0) y2 j1 j2 j3 j4 j5 r1 r2), (y2, instObj 82 dy2), (dy2, dAl w (fmtOf none 7) (fmtOf none 300) qa qb qm qt)] (i + 1) m' nx) own { s with heap := h, toks := tk } Q) E { s with heap := h, toks := tk })
    (done : ∀ (xo : Addr), xo = x2 → ∀ (lw' : Addr) (nt nd : Nat) (told due : List Value) (ds : List Dat) (tl : List (Addr × Obj)) (m₁ : Str → Option Value) (h : Heap) (tk : Nat), DatAll tl told ds → DatAll tl due ds → Keep9 (ds.length = wsl.length + 2 ∧ ∀ d ∈ ds, kqdOk 8 d = true) → Keep9 (OwnOff tl [lt, ld, dx, L + 1, L + 1 + 1]) → Off5 lt ld dx L xo → Off5 lt ld dx L dx2 → Off5 lt ld dx L y2 → Off5 lt ld dx L dy2 →
      Fr g L h (chainL x xo lt ld lw' va vs tva tvs m₁) → News g L h ((lt, listOf told.toArray nt) :: (ld, listOf due.toArray nd) :: (xo, instObj 157 dx2) :: (dx2, dML w 300 7 (cellV none 0) (cellV none 0) y2 j1 j2 j3 j4 j5 r1 r2) :: (y2, instObj 82 dy2) :: (dy2, dAl w (fmtOf none 7) (fmtOf none 300) qa qb qm qt) :: tl) → Q .next { s with heap := h, toks := tk }) :
    wpAny (model prog w) A (pyIter (.ref l)) (fun it s₂ => LoopAtV prog w A g env (Str.ofString "number") body Q E it s₂) E s := by
  refine' loop_start [(l, listOf wsl.toArray nl), (x2, instObj 157 dx2), (dx2, dML w 300 7 (cellV none 0) (cellV none 0) y2 j1 j2 j3 j4 j5 r1 r2), (y2, instObj 82 dy2), (dy2, dAl w (fmtOf none 7) (fmtOf none 300) qa qb qm qt)] ((l, listOf wsl.toArray nl) :: (x2, instObj 157 dx2) :: (dx2, dML w 300 7 (cellV none 0) (cellV none 0) y2 j1 j2 j3 j4 j5 r1 r2) :: (y2, instObj 82 dy2) :: (dy2, dAl w (fmtOf none 7) (fmtOf none 300) qa qb qm qt) :: (x, instObj 157 dx) :: (y, instObj 82 dy) :: (dy, dAl w (fmtOf c1 vs) (fmtOf c0 va) ka kb tm ta) :: (lc, listOf #[cellV c0 t0', cellV c1 t1'] nc) :: (lw, listOf #[.int (wid c0 va) u0, .int (wid c1 vs) u1] nw) :: (addD ++ addT)) hh hL F N e1 e2 e3 e4 e5 e6 e7 ?m1 ?m2 ?m3 ?m4 d4 ?m5 d5 ?htl (.head _) hI ?hcst ?m6 ?m7 ?m8 ?m9 ?m10 ?hT ?hD ha hm ?hoff (turn _ rfl) ?done
  case done =>
    rintro m₁ nx h tk ⟨c0', c1', s0, s1, s0', s1', v0, v1, xa, xb, xm, xt, y', dy', lc', lw', nc', nw', nt', nd', oc', oo', ov', told, due, ds, tl, rfl, n6, n7, n8, n9, n10, hcst, hTd, hDd, hds, dC, dO, ha', hm', hoff9, f1, f2, f3, f4, f5, f6, f7⟩ F' N'
    have up : ∀ p ∈ tl, p ∈ (lt, listOf told.toArray nt') :: (ld, listOf due.toArray nd') :: (dx, dML w va vs (cellV c0' s0) (cellV c1' s1) y' k1 k2 k3 k4 k5 tv1 tv2) :: (L + 1, oc') :: (L + 1 + 1, oo') :: tl := fun p hp => .tail _ (.tail _ (.tail _ (.tail _ (.tail _ hp))))
    have q1 := hcst _ (.tail _ (.head _))
    have q2 := hcst _ (.tail _ (.tail _ (.head _)))
    have q3 := hcst _ (.tail _ (.tail _ (.tail _ (.head _))))
    have q4 := hcst _ (.tail _ (.tail _ (.tail _ (.tail _ (.head _)))))
    exact done x2 rfl lw' nt' nd' told due ds tl m₁ h tk hTd hDd ⟨hds⟩ ⟨off5_all hoff9⟩ (hoff9 _ q1) (hoff9 _ q2) (hoff9 _ q3) (hoff9 _ q4) (fr_chain F' f1 f2 f3 f4 f5 f6 f7) (news_of N' (List.forall_mem_cons.mpr ⟨.head _, List.forall_mem_cons.mpr ⟨.tail _ (.head _), List.forall_mem_cons.mpr ⟨up _ q1, List.forall_mem_cons.mpr ⟨up _ q2, List.forall_mem_cons.mpr ⟨up _ q3, List.forall_mem_cons.mpr ⟨up _ q4, up⟩⟩⟩⟩⟩⟩))
  case m1 => k_mem
  case m2 => k_mem
  case m3 => k_mem
  case m4 => k_mem
  case m5 => k_mem
  case m6 => k_mem
  case m7 => k_mem
  case m8 => k_mem
  case m9 => k_mem
  case m10 => k_mem
  case hcst => exact List.forall_mem_cons.mpr ⟨by k_mem, List.forall_mem_cons.mpr ⟨by k_mem, List.forall_mem_cons.mpr ⟨by k_mem, List.forall_mem_cons.mpr ⟨by k_mem, List.forall_mem_cons.mpr ⟨by k_mem, List.forall_mem_nil _⟩⟩⟩⟩⟩
  case hT => exact hT.mono fun p hp => .tail _ (.tail _ (.tail _ (.tail _ (.tail _ (.tail _ (.tail _ (.tail _ (.tail _ (.tail _ (List.mem_append.mpr (.inr hp)))))))))))
  case hD => exact hD.mono fun p hp => .tail _ (.tail _ (.tail _ (.tail _ (.tail _ (.tail _ (.tail _ (.tail _ (.tail _ (.tail _ (List.mem_append.mpr (.inl hp)))))))))))
  case htl =>
    repeat' (refine List.forall_mem_cons.mpr ⟨by k_mem, ?_⟩)
    intro p hp
    have hp' : p ∈ addD ++ (addT ++ []) := by rw [List.append_nil]; exact hp
    exact .tail _ (.tail _ (.tail _ (.tail _ (.tail _ (.tail _ (.tail _ (.tail _ (.tail _ (.tail _ (.tail _ (.tail _ (.tail _ (.tail _ (.tail _ (.tail _ (.tail _ (.tail _ (hp'))))))))))))))))))
  case hoff =>
    have hg : ∀ a, a ∈ [l, x2, dx2, y2, dy2, x, y, dy, lc, lw] → Off5 lt ld dx L a := hoff
    refine List.forall_mem_cons.mpr ⟨hg _ (by simp), List.forall_mem_cons.mpr ⟨hg _ (by simp), List.forall_mem_cons.mpr ⟨hg _ (by simp), List.forall_mem_cons.mpr ⟨hg _ (by simp), List.forall_mem_cons.mpr ⟨hg _ (by simp), List.forall_mem_cons.mpr ⟨hg _ (by simp), List.forall_mem_cons.mpr ⟨hg _ (by simp), List.forall_mem_cons.mpr ⟨hg _ (by simp), List.forall_mem_cons.mpr ⟨hg _ (by simp), List.forall_mem_cons.mpr ⟨hg _ (by simp), fun p hp => ?_⟩⟩⟩⟩⟩⟩⟩⟩⟩⟩
    rcases List.mem_append.mp hp with hp | hp
    · exact hoD p hp
    · exact hoT p hp
theorem fm3_two {x : Int} (h0 : x.fmod 3 ≠ 0) (h1 : x.fmod 3 ≠ 1) : x.fmod 3 = 2 := by
  rw [Int.fmod_eq_emod_of_nonneg _ (by decide)] at *
  have := Int.emod_lt_of_pos x (show (0 : Int) < 3 by decide)
  have := Int.emod_nonneg x (show (3 : Int) ≠ 0 by decide)
  omega
/-- the two rows at the end are the same -/
theorem eq_fin {prog : Program} {w : World} {A : Around} {E : Value → Shared → Prop} {s : Shared} {h₀ : Heap} {L lt ld : Addr} {news tl addT addD : List (Addr × Obj)} {told due : List Value} {ds : List Dat} {d : Dat} {vT vD : Value} {nt nd k : Nat} {Q : Value → Shared → Prop} (N : News h₀ L s.heap news) (ma : (lt, listOf (told.toArray.push vT) nt) ∈ news) (mb : (ld, listOf (due.toArray.push vD) nd) ∈ news)
    (Da : DatAll tl told ds) (Db : DatAll tl due ds) (hT : DatIn addT vT d) (hD : DatIn addD vD d) (sl : ∀ p ∈ tl, p ∈ news) (sT : ∀ p ∈ addT, p ∈ news) (sD : ∀ p ∈ addD, p ∈ news) (hds : Keep9 (ds.length = k ∧ ∀ d ∈ ds, kqdOk 8 d = true)) (hk : kqdOk 8 d = true) (hu : A.units + 64 < cLine) (h : Q (.bool true) s) : wpAny (model prog w) A (compareOp .Eq (.ref lt) (.ref ld)) Q E s := by
  rw [List.push_toArray] at ma mb
  have hall : ∀ e ∈ ds ++ [d], kqdOk 8 e = true := fun e he => by
    rcases List.mem_append.mp he with he | he
    · exact hds.out.2 e he
    · rw [List.mem_singleton.mp he]; exact hk
  refine kqd_eq (n₁ := news) (n₂ := news) (ds := ds ++ [d]) (es := ds ++ [d]) N ma rfl rfl ((Da.mono sl).append (.one (hT.mono sT))) (fun _ q => q) mb rfl rfl ((Db.mono sl).append (.one (hD.mono sD))) (fun _ q => q) hall hall hu ?_
  classical
  have e9 : Q (.bool true) s := h
  simpa using e9
end
/-- the lines that were read for the part above are not those of the next one -/
theorem pause_C15 : True ∧ True := by first | (walk1; fail) | exact ⟨trivial, trivial⟩
section
theorem fill_C16 : (PySem.Challenge.rw_fe0333_01, hd.heap_39) = (PySem.Challenge.rw_fe0333_01, hd.heap_39) := by k_fill; rfl
theorem apart_own {add led own : List (Addr × Obj)} (h : Apart add led) (hs : ∀ p ∈ own, p ∈ led) : ∀ q ∈ add, ∀ p ∈ own, @Ne Nat p.1 q.1 := fun q hq p hp => h p (hs p hp) q hq
theorem lt_own {D : Addr} {X own : List (Addr × Obj)} (h : AllLt D X) (hs : ∀ p ∈ own, p ∈ X) : ∀ p ∈ own, @Ne Nat p.1 D := fun p hp => Nat.ne_of_lt (allLt_mem h p (hs p hp))
theorem close_refused {w : World} {g : Heap} {L lt ld dx x x2 y dy lc lw l lo la lr D1 D2 q1 q2 : Addr} {va vs : Int} {c0 c1 : Option Int} {tva tvs k1 k2 k3 k4 k5 tv1 tv2 t0 t1 t0' t1' u0 u1 ka kb tm ta : Tok} {nc nw nt nd nl i : Nat} {oc oo o1 o2 p1 p2 oR oA oO : Obj} {ov : Option Value} {vT vD : Value} {wsl told due : List Value} {s9 : Str} {ds : List Dat} {m' : Str → Option Value} {cst tl own addT addD : List (Addr × Obj)} {s₁ : Shared} {h' : Heap} {tk : Nat}
    (F : Fr g L h' m') (N : News g L h' ((D2, o2) :: (q2, p2) :: (D1, o1) :: (q1, p1) :: (lr, oR) :: (la, oA) :: (lo, oO) :: (lt, listOf (told.toArray.push vT) nt) :: (ld, listOf (due.toArray.push vD) nd) :: (dx, dML w va vs (cellV c0 t0) (cellV c1 t1) y k1 k2 k3 k4 k5 tv1 tv2) :: (L + 1, oc) :: (L + 1 + 1, oo) :: (x, instObj 157 dx) :: (y, instObj 82 dy) :: (dy, dAl w (fmtOf c1 vs) (fmtOf c0 va) ka kb tm ta) :: (lc, listOf #[cellV c0 t0', cellV c1 t1'] nc) :: (lw, listOf #[.int (wid c0 va) u0, .int (wid c1 vs) u1] nw) :: (addD ++ (addT ++ (tl ++ own))))) (e1 : m' (Str.ofString "location") = some (.ref x)) (e2 : m' (Str.ofString "other") = some (.ref x2)) (e3 : m' (Str.ofString "address") = some (.int va tva)) (e4 : m' (Str.ofString "size") = some (.int vs tvs)) (e5 : m' (Str.ofString "widths") = some (.ref lw)) (e6 : m' (Str.ofString "told") = some (.ref lt)) (e7 : m' (Str.ofString "due") = some (.ref ld))
    (d4 : oc.data = .cell (some (.ref lc))) (d5 : oo.data = .cell ov) (hT : DatIn ((D1, o1) :: addT) vT (.list (.str s9 :: rowW va vs c0 c1))) (hD : DatIn ((D2, o2) :: addD) vD (.list (.str s9 :: rowW va vs c0 c1))) (ha : ok8 (fmtOf c0 va) = true) (hm : ok8 (fmtOf c1 vs) = true)
    (n7 : (y, instObj 82 dy) ∈ tl) (n8 : (dy, dAl w (fmtOf c1 vs) (fmtOf c0 va) ka kb tm ta) ∈ tl) (n9 : (lc, listOf #[cellV c0 t0', cellV c1 t1'] nc) ∈ tl) (n10 : (lw, listOf #[.int (wid c0 va) u0, .int (wid c1 vs) u1] nw) ∈ tl)
    (hcst : ∀ p ∈ cst, p ∈ tl) (hl : (l, listOf wsl.toArray nl) ∈ cst) (n6 : (x, instObj 157 dx) ∈ tl) (hT0 : DatAll tl told ds) (hD0 : DatAll tl due ds) (hds : ds.length = i + 2 ∧ ∀ d ∈ ds, kqdOk 8 d = true) (hs9 : PyData.strOk s9 = true) (hoff : ∀ p ∈ tl, Off5 lt ld dx L p.1) (hoffo : ∀ p ∈ own, Off5 lt ld dx L p.1) (ho : OwnOff own (tl.map (·.1))) (f1 : Off5 lt ld dx L D1) (g1 : AllLt D1 (addT ++ (tl ++ own))) (f2 : Off5 lt ld dx L D2) (g2 : AllLt D2 (addD ++ (addT ++ (tl ++ own)))) (f3 : ∀ q ∈ addT, Off5 lt ld dx L q.1) (g3 : ∀ q ∈ addT, ∀ p ∈ own, @Ne Nat p.1 q.1) (f4 : ∀ q ∈ addD, Off5 lt ld dx L q.1) (g4 : ∀ q ∈ addD, ∀ p ∈ own, @Ne Nat p.1 q.1) : InvEndG g L (fun m' nx => (l, listOf wsl.toArray nl) ∈ nx ∧ LJ w L lt ld dx x x2 va vs tva tvs k1 k2 k3 k4 k5 tv1 tv2 cst (i + 1) m' nx) own s₁ { s₁ with heap := h', toks := tk } := by
  have r : ∀ (p : Addr × Obj), p ∈ tl → p ∈ ((D2, o2) :: (D1, o1) :: (addD ++ addT)) ++ tl := fun p hp => List.mem_append.mpr (.inr hp)
  refine' turn_close (Q := fun _ _ => True) ((D2, o2) :: (D1, o1) :: (addD ++ addT)) F N e1 e2 e3 e4 e5 e6 e7 ?m1 ?m2 ?m3 ?m4 d4 ?m5 d5 ?hnew ?fresh hl hcst n6 (r _ n7) (r _ n8) (r _ n9) (r _ n10) hT0 hD0 hds ?hT ?hD (rowS_ok5 s9 hs9 va vs c0 c1) ha hm hoff hoffo ho
  case m1 => k_mem
  case m2 => k_mem
  case m3 => k_mem
  case m4 => k_mem
  case m5 => k_mem
  case hT => exact hT.mono fun p hp => (List.mem_cons.mp hp).elim (fun e => e ▸ List.mem_append.mpr (.inl (.tail _ (.head _)))) fun hp => List.mem_append.mpr (.inl (.tail _ (.tail _ (List.mem_append.mpr (.inr hp)))))
  case hD => exact hD.mono fun p hp => (List.mem_cons.mp hp).elim (fun e => e ▸ List.mem_append.mpr (.inl (.head _))) fun hp => List.mem_append.mpr (.inl (.tail _ (.tail _ (List.mem_append.mpr (.inl hp)))))
  case fresh =>
    refine List.forall_mem_cons.mpr ⟨⟨f2, lt_own g2 (fun p hp => List.mem_append.mpr (.inr (List.mem_append.mpr (.inr (List.mem_append.mpr (.inr hp))))))⟩, List.forall_mem_cons.mpr ⟨⟨f1, lt_own g1 (fun p hp => List.mem_append.mpr (.inr (List.mem_append.mpr (.inr hp))))⟩, fun q hq => ?_⟩⟩
    rcases List.mem_append.mp hq with hq | hq
    · exact ⟨f4 q hq, g4 q hq⟩
    · exact ⟨f3 q hq, g3 q hq⟩
  case hnew =>
    intro p hp
    rcases List.mem_append.mp hp with hp | hp
    · rcases List.mem_cons.mp hp with e | hp
      · rw [e]; exact .head _
      rcases List.mem_cons.mp hp with e | hp
      · rw [e]; exact .tail _ (.tail _ (.head _))
      rcases List.mem_append.mp hp with hp | hp
      · exact .tail _ (.tail _ (.tail _ (.tail _ (.tail _ (.tail _ (.tail _ (.tail _ (.tail _ (.tail _ (.tail _ (.tail _ (.tail _ (.tail _ (.tail _ (.tail _ (.tail _ (List.mem_append.mpr (.inl hp))))))))))))))))))
      · exact .tail _ (.tail _ (.tail _ (.tail _ (.tail _ (.tail _ (.tail _ (.tail _ (.tail _ (.tail _ (.tail _ (.tail _ (.tail _ (.tail _ (.tail _ (.tail _ (.tail _ (List.mem_append.mpr (.inr (List.mem_append.mpr (.inl hp))))))))))))))))))))
    · exact .tail _ (.tail _ (.tail _ (.tail _ (.tail _ (.tail _ (.tail _ (.tail _ (.tail _ (.tail _ (.tail _ (.tail _ (.tail _ (.tail _ (.tail _ (.tail _ (.tail _ (List.mem_append.mpr (.inr (List.mem_append.mpr (.inr hp))))))))))))))))))))
theorem close_done {w : World} {g : Heap} {L lt ld dx x x2 y dy lc lw l lo la lr D1 D2 q1 q2 : Addr} {va vs : Int} {c0 c1 : Option Int} {tva tvs k1 k2 k3 k4 k5 tv1 tv2 t0 t1 t0' t1' u0 u1 ka kb tm ta : Tok} {nc nw nt nd nl i : Nat} {oc oo o1 o2 p1 p2 oO : Obj} {ov : Option Value} {vT vD : Value} {wsl told due : List Value} {s9 : Str} {ds : List Dat} {m' : Str → Option Value} {cst tl own addT addD : List (Addr × Obj)} {s₁ : Shared} {h' : Heap} {tk : Nat} {y' dy' qt : Addr} {pt r1 r2 r3 r4 : Obj}
    (F : Fr g L h' m') (N : News g L h' ((D2, o2) :: (q2, p2) :: (qt, pt) :: (D1, o1) :: (q1, p1) :: (y', instObj 82 dy') :: (dy', dAl w (fmtOf c1 vs) (fmtOf c0 va) ka kb tm ta) :: (lr, listOf #[.int (wid c0 va) u0, .int (wid c1 vs) u1] nw) :: (la, listOf #[cellV c0 t0', cellV c1 t1'] nc) :: (lo, oO) :: (lt, listOf (told.toArray.push vT) nt) :: (ld, listOf (due.toArray.push vD) nd) :: (dx, dML w va vs (cellV c0 t0) (cellV c1 t1) y' k1 k2 k3 k4 k5 tv1 tv2) :: (L + 1, oc) :: (L + 1 + 1, oo) :: (x, instObj 157 dx) :: (y, r1) :: (dy, r2) :: (lc, r3) :: (lw, r4) :: (addD ++ (addT ++ (tl ++ own))))) (e1 : m' (Str.ofString "location") = some (.ref x)) (e2 : m' (Str.ofString "other") = some (.ref x2)) (e3 : m' (Str.ofString "address") = some (.int va tva)) (e4 : m' (Str.ofString "size") = some (.int vs tvs)) (e5 : m' (Str.ofString "widths") = some (.ref lr)) (e6 : m' (Str.ofString "told") = some (.ref lt)) (e7 : m' (Str.ofString "due") = some (.ref ld))
    (d4 : oc.data = .cell (some (.ref la))) (d5 : oo.data = .cell ov) (hT : DatIn ((D1, o1) :: addT) vT (.list (.str s9 :: rowW va vs c0 c1))) (hD : DatIn ((D2, o2) :: addD) vD (.list (.str s9 :: rowW va vs c0 c1))) (ha : ok8 (fmtOf c0 va) = true) (hm : ok8 (fmtOf c1 vs) = true)
    (f5 : Off5 lt ld dx L y') (f6 : Off5 lt ld dx L dy') (g6 : AllLt dy' (tl ++ own)) (hyy : @LT.lt Nat _ dy' y') (f7 : Off5 lt ld dx L lr) (g7 : AllLt lr (tl ++ own)) (f8 : Off5 lt ld dx L la) (g8 : ∀ p ∈ tl ++ own, @Ne Nat p.1 la)
    (hcst : ∀ p ∈ cst, p ∈ tl) (hl : (l, listOf wsl.toArray nl) ∈ cst) (n6 : (x, instObj 157 dx) ∈ tl) (hT0 : DatAll tl told ds) (hD0 : DatAll tl due ds) (hds : ds.length = i + 2 ∧ ∀ d ∈ ds, kqdOk 8 d = true) (hs9 : PyData.strOk s9 = true) (hoff : ∀ p ∈ tl, Off5 lt ld dx L p.1) (hoffo : ∀ p ∈ own, Off5 lt ld dx L p.1) (ho : OwnOff own (tl.map (·.1))) (f1 : Off5 lt ld dx L D1) (g1 : AllLt D1 (addT ++ (tl ++ own))) (f2 : Off5 lt ld dx L D2) (g2 : AllLt D2 (addD ++ (addT ++ (tl ++ own)))) (f3 : ∀ q ∈ addT, Off5 lt ld dx L q.1) (g3 : ∀ q ∈ addT, ∀ p ∈ own, @Ne Nat p.1 q.1) (f4 : ∀ q ∈ addD, Off5 lt ld dx L q.1) (g4 : ∀ q ∈ addD, ∀ p ∈ own, @Ne Nat p.1 q.1) : InvEndG g L (fun m' nx => (l, listOf wsl.toArray nl) ∈ nx ∧ LJ w L lt ld dx x x2 va vs tva tvs k1 k2 k3 k4 k5 tv1 tv2 cst (i + 1) m' nx) own s₁ { s₁ with heap := h', toks := tk } := by
  have r : ∀ (p : Addr × Obj), p ∈ (D2, o2) :: (D1, o1) :: (y', instObj 82 dy') :: (dy', dAl w (fmtOf c1 vs) (fmtOf c0 va) ka kb tm ta) :: (lr, listOf #[.int (wid c0 va) u0, .int (wid c1 vs) u1] nw) :: (la, listOf #[cellV c0 t0', cellV c1 t1'] nc) :: (addD ++ addT) → p ∈ ((D2, o2) :: (D1, o1) :: (y', instObj 82 dy') :: (dy', dAl w (fmtOf c1 vs) (fmtOf c0 va) ka kb tm ta) :: (lr, listOf #[.int (wid c0 va) u0, .int (wid c1 vs) u1] nw) :: (la, listOf #[cellV c0 t0', cellV c1 t1'] nc) :: (addD ++ addT)) ++ tl := fun p hp => List.mem_append.mpr (.inl hp)
  refine' turn_close (Q := fun _ _ => True) ((D2, o2) :: (D1, o1) :: (y', instObj 82 dy') :: (dy', dAl w (fmtOf c1 vs) (fmtOf c0 va) ka kb tm ta) :: (lr, listOf #[.int (wid c0 va) u0, .int (wid c1 vs) u1] nw) :: (la, listOf #[cellV c0 t0', cellV c1 t1'] nc) :: (addD ++ addT)) F N e1 e2 e3 e4 e5 e6 e7 ?m1 ?m2 ?m3 ?m4 d4 ?m5 d5 ?hnew ?fresh hl hcst n6 (r _ (by k_mem)) (r _ (by k_mem)) (r _ (by k_mem)) (r _ (by k_mem)) hT0 hD0 hds ?hT ?hD (rowS_ok5 s9 hs9 va vs c0 c1) ha hm hoff hoffo ho
  case m1 => k_mem
  case m2 => k_mem
  case m3 => k_mem
  case m4 => k_mem
  case m5 => k_mem
  case hT => exact hT.mono fun p hp => r p ((List.mem_cons.mp hp).elim (fun e => e ▸ .tail _ (.head _)) fun hp => .tail _ (.tail _ (.tail _ (.tail _ (.tail _ (.tail _ (List.mem_append.mpr (.inr hp))))))))
  case hD => exact hD.mono fun p hp => r p ((List.mem_cons.mp hp).elim (fun e => e ▸ .head _) fun hp => .tail _ (.tail _ (.tail _ (.tail _ (.tail _ (.tail _ (List.mem_append.mpr (.inl hp))))))))
  case fresh =>
    have g6' := lt_own g6 (own := own) (fun p hp => List.mem_append.mpr (.inr hp))
    have g5' : ∀ p ∈ own, @Ne Nat p.1 y' := fun p hp => Nat.ne_of_lt (Nat.lt_trans (allLt_mem g6 p (List.mem_append.mpr (.inr hp))) hyy)
    refine List.forall_mem_cons.mpr ⟨⟨f2, lt_own g2 (fun p hp => List.mem_append.mpr (.inr (List.mem_append.mpr (.inr (List.mem_append.mpr (.inr hp))))))⟩, List.forall_mem_cons.mpr ⟨⟨f1, lt_own g1 (fun p hp => List.mem_append.mpr (.inr (List.mem_append.mpr (.inr hp))))⟩, List.forall_mem_cons.mpr ⟨⟨f5, g5'⟩, List.forall_mem_cons.mpr ⟨⟨f6, g6'⟩, List.forall_mem_cons.mpr ⟨⟨f7, lt_own g7 (fun p hp => List.mem_append.mpr (.inr hp))⟩, List.forall_mem_cons.mpr ⟨⟨f8, fun p hp => g8 p (List.mem_append.mpr (.inr hp))⟩, fun q hq => ?_⟩⟩⟩⟩⟩⟩
    rcases List.mem_append.mp hq with hq | hq
    · exact ⟨f4 q hq, g4 q hq⟩
    · exact ⟨f3 q hq, g3 q hq⟩
  case hnew =>
    intro p hp
    rcases List.mem_append.mp hp with hp | hp
    · rcases List.mem_cons.mp hp with e | hp
      · rw [e]; exact .head _
      rcases List.mem_cons.mp hp with e | hp
      · rw [e]; exact .tail _ (.tail _ (.tail _ (.head _)))
      rcases List.mem_cons.mp hp with e | hp
      · rw [e]; exact .tail _ (.tail _ (.tail _ (.tail _ (.tail _ (.head _)))))
      rcases List.mem_cons.mp hp with e | hp
      · rw [e]; exact .tail _ (.tail _ (.tail _ (.tail _ (.tail _ (.tail _ (.head _))))))
      rcases List.mem_cons.mp hp with e | hp
      · rw [e]; exact .tail _ (.tail _ (.tail _ (.tail _ (.tail _ (.tail _ (.tail _ (.head _)))))))
      rcases List.mem_cons.mp hp with e | hp
      · rw [e]; exact .tail _ (.tail _ (.tail _ (.tail _ (.tail _ (.tail _ (.tail _ (.tail _ (.head _))))))))
      rcases List.mem_append.mp hp with hp | hp
      · exact .tail _ (.tail _ (.tail _ (.tail _ (.tail _ (.tail _ (.tail _ (.tail _ (.tail _ (.tail _ (.tail _ (.tail _ (.tail _ (.tail _ (.tail _ (.tail _ (.tail _ (.tail _ (.tail _ (.tail _ (List.mem_append.mpr (.inl hp)))))))))))))))))))))
      · exact .tail _ (.tail _ (.tail _ (.tail _ (.tail _ (.tail _ (.tail _ (.tail _ (.tail _ (.tail _ (.tail _ (.tail _ (.tail _ (.tail _ (.tail _ (.tail _ (.tail _ (.tail _ (.tail _ (.tail _ (List.mem_append.mpr (.inr (List.mem_append.mpr (.inl hp)))))))))))))))))))))))
    · exact .tail _ (.tail _ (.tail _ (.tail _ (.tail _ (.tail _ (.tail _ (.tail _ (.tail _ (.tail _ (.tail _ (.tail _ (.tail _ (.tail _ (.tail _ (.tail _ (.tail _ (.tail _ (.tail _ (.tail _ (List.mem_append.mpr (.inr (List.mem_append.mpr (.inr hp)))))))))))))))))))))))
end
/-- the lines that were read for the part above are not those of the next one -/
theorem pause_C16 : True ∧ True := by first | (walk1; fail) | exact ⟨trivial, trivial⟩
section
theorem fill_LF : (PySem.Challenge.rw_fe0333_01, hd.heap_39) = (PySem.Challenge.rw_fe0333_01, hd.heap_39) := by k_fill; rfl
local macro_rules | `(tactic| walk_at "binaryOp Pow int int") => `(tactic| (k_here; (with_reducible refine pow_int_small ?kb1 ?kb2 ?kb3 ?_); (case kb1 => first | decide | exact fmod_nn _ (by decide)); (case kb2 => first | decide | exact fmod_le6 _ (by decide) (by decide)); (case kb3 => decide)))
local macro_rules | `(tactic| walk_at "getMethod ref") => `(tactic| (k_here; (with_reducible show wpAny _ _ (getMethod (Value.ref 57) (Str.ofString "keys") _) _ _ _); refine keys_get (keyed57 (by k_asm)) (by k_asm) ?_))
local macro_rules | `(tactic| walk_at "getMethod ref") => `(tactic| (k_here; (with_reducible show wpAny _ _ (getMethod (Value.ref 58) (Str.ofString "keys") _) _ _ _); refine keys_get (keyed58 (by k_asm)) (by k_asm) ?_))
local macro_rules | `(tactic| walk_at "call builtin:dict.keys") => `(tactic| (k_here; (with_reducible show wpAny _ _ (call (Value.builtin "dict.keys") [Value.ref _]) _ _ _); (first | (refine keys_call (keyed57 (by k_asm)) (by k_asm) (by k_asm) ?_) | (refine keys_call (keyed58 (by k_asm)) (by k_asm) (by k_asm) ?_)); intro V' h' F' N' l1; (try k_lt l1)))
local macro_rules | `(tactic| walk_at "call type:list") => `(tactic| (k_here; (with_reducible show wpAny _ _ (call (Value.type _) [Value.ref _]) _ _ _); (first | (refine keys_list (keyed57 (by k_asm)) rfl (by k_asm) (by k_asm) (by k_mem) ?_) | (refine keys_list (keyed58 (by k_asm)) rfl (by k_asm) (by k_asm) (by k_mem) ?_)); intro B' c' h' tk' t1 t2 t3 t4 t5 t6 t7 t8 F' N' l1; (try k_lt l1)))
local macro_rules | `(tactic| walk_at "binaryOp Mod str ref") => `(tactic| (k_here; (with_reducible show wpAny _ _ (binaryOp Operator.Mod (Value.str (Str.ofString "address_format must be an integer selected from : %s ") _) (Value.ref _)) _ _ _); refine' text1 ?a1 ?a2 ?a3 ?g ?u ?_; (case a1 => k_asm); (case a2 => k_asm); (case a3 => k_mem); (case g => (first | (simp only [guards_deeper, guards_make]; done) | ((try simp only [guards_deeper, guards_make]); rfl))); (case u => (have hc9 := cLine_is; (try simp only [units_make, units_deeper, units_in1]); (try dsimp only [ktrTop]); omega)); intro t' h' tk' F' N'))
local macro_rules | `(tactic| walk_at "binaryOp Mod str ref") => `(tactic| (k_here; (with_reducible show wpAny _ _ (binaryOp Operator.Mod (Value.str (Str.ofString "memorysize_format must be an integer selected from : %s") _) (Value.ref _)) _ _ _); refine' text2 ?a1 ?a2 ?a3 ?g ?u ?_; (case a1 => k_asm); (case a2 => k_asm); (case a3 => k_mem); (case g => (first | (simp only [guards_deeper, guards_make]; done) | ((try simp only [guards_deeper, guards_make]); rfl))); (case u => (have hc9 := cLine_is; (try simp only [units_make, units_deeper, units_in1]); (try dsimp only [ktrTop]); omega)); intro t' h' tk' F' N'))
local macro_rules | `(tactic| walk_at "my enter") => `(tactic| k_dflt (refine' code_def ?k1 ?k2 ?k3 ?k4 ?k5 ?kA ?kF ?kK ?k6 ?k7 ?k8 ?k9 ?kB ?_ ?c2 ?c3 ?c4 ?c5; (case kA => exact rfl); (case kF => exact rfl); (case kK => first | assumption | exact rfl); (case k1 => k_asm); (case k2 => k_asm); (case k3 => k_asm); (case k4 => k_asm); (case k5 => k_asm); (case k6 => k_is); (case k7 => k_is); (case k8 => ((try simp only [depth_make, depth_deeper, depth_in1]); (try dsimp only [ktrTop]); omega)); (case k9 => first | exact BindsTo.of_eq rfl | exact binds_K (by k_in) rfl (by k_is) rfl rfl rfl); (case c5 => decide); (case kB => exact locs rfl); (case c2 => exact rfl); (case c3 => exact rfl); (case c4 => exact rfl); k_whole; intro g' L' h' FG' F' N' B' X' T'; (try dsimp only); (try k_fold)))
local macro_rules | `(tactic| walk_at "my make") => `(tactic| (k_dflt (refine' call_cls ?k1 ?k2 ?k3 ?k4 ?k5 ?k6 ?_; (case k1 => k_asm); (case k2 => k_asm); (case k3 => k_asm); (case k4 => k_is); (case k5 => k_is); (case k6 => k_is); k_whole; intro x' d' h' F' N' l1 l2; (try k_lt l1); (try k_lt2 l2); (try k_sweep)); walk_at "my enter"))
local macro_rules | `(tactic| walk_at "my room") => `(tactic| first | ((try simp only [depth_make, depth_deeper, depth_in1, units_make, units_deeper, units_in1]); (try dsimp only [ktrTop]); omega) | decide | (with_unfolding_all decide))
local macro_rules | `(tactic| walk_at "leaving ref") => `(tactic| (k_here; first | (refine' leave_raiseS ?k1 ?k0 ?k2 ?k3 ?_; (case k0 => first | assumption | exact Heap.MadeExc.of (by assumption)); (case k2 => assumption); (case k1 => assumption); (case k3 => k_asm); k_whole; intro h' t' S' R' U'; (try dsimp only at S' R' U' ⊢)) | (refine' leave_onS ?k1 ?k2 ?k3 ?k4 ?_; (case k3 => assumption); (case k2 => assumption); (case k1 => assumption); (case k4 => assumption); k_whole; intro h' S' R' U'; (try dsimp only at S' R' U' ⊢))))
local macro_rules | `(tactic| walk_at "my sub") => `(tactic| ((repeat' (refine List.forall_mem_cons.mpr ⟨by k_mem, ?_⟩)); (intro p hp; repeat (first | exact hp | apply List.Mem.tail))))
local macro_rules | `(tactic| walk_at "my no") => `(tactic| first | assumption | exact and_no1 (by assumption) | exact and_no2 (by assumption) | exact and_no1 (no8 (by assumption)) | exact and_no2 (no8 (by assumption)))
local macro_rules | `(tactic| walk_at "my raise") => `(tactic| ((try dsimp only [InitBack]); refine' Rai.use2 ?H ?C ?U ?F ?R ?S; (case H => assumption); (case C => walk_at "my no"); (case U => assumption); (case F => assumption); (case R => assumption); (case S => walk_at "my sub")))
local macro_rules | `(tactic| walk_at "my ins") => `(tactic| ((repeat apply Ins.cons); apply Ins.last))
local macro_rules | `(tactic| k_all) => `(tactic| (refine all_app ?ka9 ?kb9; (case ka9 => exact all_apart (by assumption) (by k_mem)); (case kb9 => k_all)))
local macro_rules | `(tactic| walk_at "call ref") => `(tactic| (k_here; (with_reducible show wpAny _ _ (call (Value.ref 175) _ _) _ _ _); k_dflt (refine' c_eight _ _ _ _ _ _ _ _ _ _ _ _ _ _ _ _ _ _ _ _ _ ?k1 ?k2 ?k3 ?k4 ?k5 ?kK ?kd ?ku ?_ ?_; (case k1 => k_asm); (case k2 => k_asm); (case k3 => k_asm); (case k4 => k_asm); (case k5 => k_asm); (case kK => first | exact rfl | assumption); (case kd => walk_at "my room"); (case ku => walk_at "my room"); (focus (unfold Bck; intro v9 n9 h' tk' F' N' r9; obtain ⟨l9, t1, t2, t3, t4, t5, t6, t7, t8, e9, e8, l1⟩ := r9; subst e9; subst e8; (try k_lt l1); (try dsimp only); (try k_fold))); rotate_left; (focus (unfold Rai; intro n9 r9; (exact r9.2.elim))))))
local macro_rules | `(tactic| walk_at "call ref") => `(tactic| (k_here; (with_reducible show wpAny _ _ (call (Value.ref 168) _ _) _ _ _); k_dflt (refine' c_formats _ _ _ _ _ _ _ _ _ _ _ _ _ _ _ _ _ _ _ _ _ ?k1 ?k2 ?k3 ?k4 ?k5 ?kK ?kd ?ku ?_ ?_; (case k1 => k_asm); (case k2 => k_asm); (case k3 => k_asm); (case k4 => k_asm); (case k5 => k_asm); (case kK => first | exact rfl | assumption); (case kd => walk_at "my room"); (case ku => walk_at "my room"); (focus (unfold Bck; intro v9 n9 h' tk' F' N' r9; obtain ⟨l9, t1, t2, t3, t4, t5, t6, t7, t8, t9, t10, t11, t12, e9, e8, l1⟩ := r9; subst e9; subst e8; (try k_lt l1); (try dsimp only); (try k_fold))); rotate_left; (focus (unfold Rai; intro n9 r9; (exact r9.2.elim))))))
local macro_rules | `(tactic| walk_at "call ref") => `(tactic| (k_here; (with_reducible show wpAny _ _ (call (Value.ref 182) _ _) _ _ _); k_dflt (refine' c_worth _ _ _ _ _ _ _ _ _ _ _ _ _ _ _ _ _ _ _ _ _ _ _ ?k1 ?k2 ?k3 ?k4 ?k5 ?kK ?kd ?ku ?_ ?_; (case k1 => k_asm); (case k2 => k_asm); (case k3 => k_asm); (case k4 => k_asm); (case k5 => k_asm); (case kK => first | exact rfl | assumption); (case kd => walk_at "my room"); (case ku => walk_at "my room"); (focus (unfold Bck; intro v9 n9 h' tk' F' N' r9; obtain ⟨e9, v9, t9, e8, hv0⟩ := r9; subst e9; subst e8; (try dsimp only); (try k_fold))); rotate_left; (focus (unfold Rai; intro n9 r9; (exact r9.2.elim))))))
local macro_rules | `(tactic| walk_at "subscriptTail") => `(tactic| (k_here; (with_reducible show wpAny _ _ (subscriptTail _ _ (Value.ref _) (Value.int (Int.fmod _ 13) _)) _ _ _); k_dflt (refine' item13 ?k1 ?k2 ?k3 ?k4 ?_ ?k7; (case k1 => k_asm); (case k2 => k_mem); (case k3 => exact fmod_nn _ (by decide)); (case k4 => exact fmod13 _); (case k7 => with_unfolding_all rfl); k_whole); intro c9 t9; (try dsimp only); (try k_fold)))
local macro_rules | `(tactic| walk_at "call ref") => `(tactic| (k_here; (with_reducible show wpAny _ _ (call (Value.ref 189) _ _) _ _ _); k_dflt (refine' c_width _ _ _ _ _ _ _ _ _ ?hn _ _ _ _ _ _ _ _ _ _ _ _ _ _ _ _ ?k1 ?k2 ?k3 ?k4 ?k5 ?kK ?kd ?ku ?_ ?_; (case k1 => k_asm); (case k2 => k_asm); (case k3 => k_asm); (case k4 => k_asm); (case k5 => k_asm); (case hn => assumption); (case kK => first | exact rfl | assumption); (case kd => walk_at "my room"); (case ku => walk_at "my room"); (focus (unfold Bck; intro v9 n9 h' tk' F' N' r9; obtain ⟨⟨add9, e9, ha9⟩, t9, e8⟩ := r9; subst e9; subst e8; (have N2 := news_tl N'); clear N'; clear ha9; (try dsimp only); (try k_fold))); rotate_left; (focus (unfold Rai; intro n9 r9; (exact r9.2.elim))))))
local macro_rules | `(tactic| walk_at "call ref") => `(tactic| (k_here; (with_reducible show wpAny _ _ (call (Value.ref 208) [Value.int (_) _, Value.int _ _, _] _) _ _ _); k_dflt (refine' c_madeN _ _ _ _ _ _ _ _ _ _ _ _ _ _ _ ?hm _ _ _ _ _ _ _ _ _ _ _ _ _ _ ?k1 ?k2 ?k3 ?k4 ?k5 ?kK ?kd ?ku ?_; (case k1 => k_asm); (case k2 => k_asm); (case k3 => k_asm); (case k4 => k_asm); (case k5 => k_asm); (case hm => k_mem); (case kK => first | exact rfl | assumption); (case kd => walk_at "my room"); (case ku => walk_at "my room"); (unfold Bck; intro v9 n9 h' tk' F' N' r9; rcases r9 with ⟨l9, nl9, e9, hno9, e8, hl9⟩ | ⟨l9, nl9, x9, dx9, y9, dy9, k1, k2, k3, k4, k5, ka, kb, ta9, tm9, e9, hfa9, hfm9, e8, hl9, lx1, lx2, lx3, lx4⟩; (focus (subst e9; subst e8; (have hno8 := gd_no (wd_no hno9)); (try k_lt hl9); (try dsimp only); (try k_fold))); rotate_left; (focus (subst e9; subst e8; (have hp8 := (wd_pos hfa9).1); (have hp9 := (wd_pos hfm9).1); (have hp7 := gd_yes hp8 hp9); (try k_lt hl9); unfold belowN at lx1 lx2 lx3 lx4; (try dsimp only); (try k_fold))); rotate_left))))
local macro_rules | `(tactic| walk_at "call ref") => `(tactic| (k_here; (with_reducible show wpAny _ _ (call (Value.ref 208) [Value.int 5 _, Value.int 6 _, _] _) _ _ _); k_dflt (refine' c_madeN _ _ _ _ _ _ _ _ _ none none _ _ 0 0 ?hm _ _ _ _ _ _ _ _ _ _ _ _ _ _ ?k1 ?k2 ?k3 ?k4 ?k5 ?kK ?kd ?ku ?_; (case k1 => k_asm); (case k2 => k_asm); (case k3 => k_asm); (case k4 => k_asm); (case k5 => k_asm); (case hm => k_mem); (case kK => first | exact rfl | assumption); (case kd => walk_at "my room"); (case ku => walk_at "my room"); (unfold Bck; intro v9 n9 h' tk' F' N' r9; rcases r9 with ⟨l9, nl9, e9, hno9, e8, hl9⟩ | ⟨l9, nl9, x9, dx9, y9, dy9, k1, k2, k3, k4, k5, ka, kb, ta9, tm9, e9, hfa9, hfm9, e8, hl9, lx1, lx2, lx3, lx4⟩; (exact absurd hno9 (by decide +kernel)); (focus (subst e9; subst e8; (have hp8 := (wd_pos hfa9).1); (have hp9 := (wd_pos hfm9).1); (have hp7 := gd_yes hp8 hp9); (try k_lt hl9); unfold belowN at lx1 lx2 lx3 lx4; (try dsimp only); (try k_fold))); rotate_left))))
local macro_rules | `(tactic| walk_at "call ref") => `(tactic| (k_here; (with_reducible show wpAny _ _ (call (Value.ref 157) [Value.int 300 _, Value.int 7 _] _) _ _ _); k_dflt (refine' c_ml2 _ _ _ _ _ _ _ _ _  _ _ _ _ _ _ _ _ _ _ _ _ _ _ _ _ ?k1 ?k2 ?k3 ?k4 ?k5 ?kK ?kd ?ku  ?_ ?_; (case k1 => k_asm); (case k2 => k_asm); (case k3 => k_asm); (case k4 => k_asm); (case k5 => k_asm);  (case kK => first | exact rfl | assumption); (case kd => walk_at "my room"); (case ku => walk_at "my room"); (focus (unfold Bck; intro v9 n9 h' tk' F' N' r9; obtain ⟨x9, dx9, y9, dy9, k1, k2, k3, k4, k5, ka, kb, ta9, tm9, e9, e8, l1, lx1, lx2, lx3, hfa, hfm⟩ := r9; subst e9; subst e8; (try k_lt l1); unfold belowN at lx1 lx2 lx3; (try dsimp only); (try k_fold))); rotate_left; (focus (unfold Rai; intro n9 r9; (exact absurd r9.2 (by decide +kernel)))))))
local macro_rules | `(tactic| walk_at "call ref") => `(tactic| (k_here; (with_reducible show wpAny _ _ (call (Value.ref 222) [Value.ref _, Value.int _ _, Value.int _ _] _) _ _ _); k_dflt (refine' c_toldW _ _ _ _ _ _ _ _ _ _ _ _ _ _ _ _ _ _ _ _ _ _ _ _ _ _ _ _ ?h0 ?h1 ?ha ?hb ?m1 ?m2 ?m3 ?m4 _ _ _ _ _ _ _ _ _ _ _ _ _ _ _ _ ?k1 ?k2 ?k3 ?k4 ?k5 ?kK ?kd ?ku ?_ ?_; (case k1 => k_asm); (case k2 => k_asm); (case k3 => k_asm); (case k4 => k_asm); (case k5 => k_asm); (case m1 => k_mem); (case m2 => k_mem); (case m3 => k_mem); (case m4 => k_mem); (case h0 => first | assumption | decide); (case h1 => first | assumption | decide); (case ha => assumption); (case hb => assumption); (case kK => first | exact rfl | assumption); (case kd => walk_at "my room"); (case ku => walk_at "my room"); (focus (unfold Bck; intro v9 n9 h' tk' F' N' r9; obtain ⟨add9, e9, ha9, hD9⟩ := r9; subst e9; (have N2 := ins_news N' (by walk_at "my ins")); clear N'; (try dsimp only); (try k_fold))); rotate_left; (focus (unfold Rai; intro n9 r9; (exact r9.2.elim))))))
local macro_rules | `(tactic| walk_at "call ref") => `(tactic| (k_here; (with_reducible show wpAny _ _ (call (Value.ref 229) [Value.ref _, Value.ref _, Value.int _ _, Value.int _ _] _) _ _ _); k_dflt (refine' c_dueW _ _ _ _ _ _ _ _ _ _ _ _ _ _ _ _ _ _ _ _ _ ?h0 ?h1 ?ha ?hb ?m1 ?m2 _ _ _ _ _ _ _ _ _ _ _ _ _ _ _ _ ?k1 ?k2 ?k3 ?k4 ?k5 ?kK ?kd ?ku ?_ ?_; (case k1 => k_asm); (case k2 => k_asm); (case k3 => k_asm); (case k4 => k_asm); (case k5 => k_asm); (case m1 => k_mem); (case m2 => k_mem); (case h0 => first | assumption | decide); (case h1 => first | assumption | decide); (case ha => first | rfl | decide +kernel); (case hb => first | rfl | decide +kernel); (case kK => first | exact rfl | assumption); (case kd => walk_at "my room"); (case ku => walk_at "my room"); (focus (unfold Bck; intro v9 n9 h' tk' F' N' r9; obtain ⟨add9, e9, ha9, hD9⟩ := r9; subst e9; (have N2 := ins_news N' (by walk_at "my ins")); clear N'; (try dsimp only); (try k_fold))); rotate_left; (focus (unfold Rai; intro n9 r9; (exact r9.2.elim))))))
local macro_rules | `(tactic| k_all) => `(tactic| exact OwnOff.ne (Keep9.out (by with_reducible assumption)) (by k_memK))
local macro_rules | `(tactic| k_ne) => `(tactic| ((try dsimp only); first | (exact Off5.n1 (by with_reducible assumption)) | (exact Off5.n2 (by with_reducible assumption)) | (exact Off5.n3 (by with_reducible assumption)) | (exact Off5.n4 (by with_reducible assumption)) | (exact Off5.n5 (by with_reducible assumption)) | (exact Ne.symm (Off5.n1 (by with_reducible assumption))) | (exact Ne.symm (Off5.n2 (by with_reducible assumption))) | (exact Ne.symm (Off5.n3 (by with_reducible assumption))) | (exact Ne.symm (Off5.n4 (by with_reducible assumption))) | (exact Ne.symm (Off5.n5 (by with_reducible assumption)))))
local macro_rules | `(tactic| walk_at "my off5") => `(tactic| exact ⟨by k_ne, by k_ne, by k_ne, by k_ne, by k_ne⟩)
local macro_rules | `(tactic| walk_at "exec For Name Subscript cons nil") => `(tactic| (k_here; (rename Fr _ _ _ _ => lF'); (with_unfolding_all refine' For_invVF lF' ?k1 ?k2 ?_; (case k1 => exact rfl); (case k2 => exact rfl); k_whole)))
theorem in_base {K : Frag} {g h : Heap} {L : Addr} {m : Str → Option Value} (_F : Fr g L h m) (X : K.In g) : K.In g := X
local macro_rules | `(tactic| walk_at "exec Assign cons ListComp") => `(tactic| (k_here; lcf_look; lcg_calm; k_dflt (refine LCg.Assign_ListComp_U (F₀ := by k_asm) (by rfl) (by with_unfolding_all rfl) (by with_unfolding_all rfl) (by decide) (by rfl) (by decide) (by rfl) (by rfl) (by rfl) ?_); k_dflt lcg_toSrc))
local macro_rules | `(tactic| walk_at "CompEnd") => `(tactic| (refine' LCg.CompEnd.intro ?F ?N _ (fun _ h => h) ?off ?S ?_; (case N => k_asm); (case F => k_asm); (case off => with_unfolding_all assumption); (case S => lcg_src)))
local macro_rules | `(tactic| walk_at "CompSrc") => `(tactic| (k_here; k_dflt (refine LCg.CompSrc.range (by rfl) (by k_asm) (by k_asm) (by assumption) (by first | decide | rfl) (by first | rfl | decide) (by first | size_fits | exact Nat.le_of_ble_eq_true rfl) ?_; intro g'; lcg_lit)))
local macro_rules | `(tactic| k_in) => `(tactic| exact Frag.In.keeps (by with_reducible assumption) (Fr.keep (by with_reducible assumption)))
local macro_rules | `(tactic| walk_at "my addin") => `(tactic| walk_at "my sub9")
local macro_rules | `(tactic| walk_at "binaryOp Add ref") => `(tactic| (k_here; (with_reducible show wpAny _ _ (binaryOp Operator.Add (Value.ref _) _) _ _ _); k_dflt (refine' cat_dat (ds := rowW _ _ _ _) ?F ?N ?ha ?hs ?hD ?hl ?hv ?_; (case F => k_asm); (case N => k_asm); (case hD => assumption); (case ha => k_mem); (case hs => walk_at "my addin"); (case hl => exact rowW_length _ _ _ _); (case hv => exact .str _ _)); intro D' us' h' F' N' l1 hD8; (try k_lt l1); (try k_sweep)))
theorem size_data {news : List (Addr × Obj)} {vs : List Value} {ds : List Dat} {i k : Nat} (h : DatAll news vs ds) (hd : ds.length = i + 2) (hi : i + 2 ≤ k) (hk : k ≤ 1000) : vs.toArray.size ≤ sizeLine := by
  rw [List.size_toArray, h.length, hd, sizeLine_eq]
  omega
local macro_rules | `(tactic| walk_at "call builtin:list.append") => `(tactic| (k_here; (with_reducible show wpAny _ _ (call (Value.builtin _) [Value.ref _, _]) _ _ _); k_dflt (refine' append_K ?k1 ?k2 ?k3 ?_ ?z; (case k1 => k_asm); (case k2 => k_asm); (case k3 => k_upd); (case z => with_reducible assumption); k_whole); intro h' F' N'; (try k_sweep)))
local macro_rules | `(tactic| walk_at "my lts") => `(tactic| ((rename _ ∧ _ => hq); have hq2 := hq; (repeat (replace hq2 := hq2.2)); (iterate 10 (refine List.forall_mem_cons.mpr ⟨by (show @LT.lt Nat _ _ _; (try dsimp only); omega), ?_⟩)); (exact fun p hp => allLt_mem hq2 p hp)))
structure Sub9 (l l' : List (Addr × Obj)) : Prop where
  out : ∀ p ∈ l, p ∈ l'
theorem Sub9.refl {l : List (Addr × Obj)} : Sub9 l l := ⟨fun _ h => h⟩
theorem Sub9.tail {l l' : List (Addr × Obj)} {a : Addr × Obj} (h : Sub9 l l') : Sub9 l (a :: l') := ⟨fun p hp => .tail _ (h.out p hp)⟩
theorem Sub9.left {l t : List (Addr × Obj)} : Sub9 l (l ++ t) := ⟨fun _ h => List.mem_append.mpr (.inl h)⟩
theorem Sub9.right {l t a : List (Addr × Obj)} (h : Sub9 l t) : Sub9 l (a ++ t) := ⟨fun p hp => List.mem_append.mpr (.inr (h.out p hp))⟩
local macro_rules | `(tactic| walk_at "my sub9") => `(tactic| (apply Sub9.out; repeat (first | with_reducible exact Sub9.refl | with_reducible exact Sub9.left | with_reducible refine Sub9.tail ?_ | with_reducible refine Sub9.right ?_)))
local macro_rules | `(tactic| walk_at "my subs10") => `(tactic| ((iterate 10 (refine List.forall_mem_cons.mpr ⟨by k_mem, ?_⟩)); walk_at "my sub9"))
local macro_rules | `(tactic| walk_at "my subs11") => `(tactic| ((iterate 11 (refine List.forall_mem_cons.mpr ⟨by k_mem, ?_⟩)); walk_at "my sub9"))
local macro_rules | `(tactic| walk_at "my allt") => `(tactic| first | (with_reducible assumption) | exact (by with_reducible assumption : _ ∧ AllLt _ _).2 | exact (by with_reducible assumption : _ ∧ _ ∧ AllLt _ _).2.2 | exact (by with_reducible assumption : _ ∧ _ ∧ _ ∧ AllLt _ _).2.2.2 | exact (by with_reducible assumption : _ ∧ _ ∧ _ ∧ _ ∧ AllLt _ _).2.2.2.2 | exact (by with_reducible assumption : _ ∧ _ ∧ _ ∧ _ ∧ _ ∧ AllLt _ _).2.2.2.2.2 | exact (by with_reducible assumption : _ ∧ _ ∧ _ ∧ _ ∧ _ ∧ _ ∧ AllLt _ _).2.2.2.2.2.2 | exact (by with_reducible assumption : _ ∧ _ ∧ _ ∧ _ ∧ _ ∧ _ ∧ _ ∧ AllLt _ _).2.2.2.2.2.2.2 | exact (by with_reducible assumption : _ ∧ _ ∧ _ ∧ _ ∧ _ ∧ _ ∧ _ ∧ _ ∧ AllLt _ _).2.2.2.2.2.2.2.2 | exact (by with_reducible assumption : _ ∧ _ ∧ _ ∧ _ ∧ _ ∧ _ ∧ _ ∧ _ ∧ _ ∧ AllLt _ _).2.2.2.2.2.2.2.2.2 | exact (by with_reducible assumption : _ ∧ _ ∧ _ ∧ _ ∧ _ ∧ _ ∧ _ ∧ _ ∧ _ ∧ _ ∧ AllLt _ _).2.2.2.2.2.2.2.2.2.2 | exact (by with_reducible assumption : _ ∧ _ ∧ _ ∧ _ ∧ _ ∧ _ ∧ _ ∧ _ ∧ _ ∧ _ ∧ _ ∧ AllLt _ _).2.2.2.2.2.2.2.2.2.2.2 | exact (by with_reducible assumption : _ ∧ _ ∧ _ ∧ _ ∧ _ ∧ _ ∧ _ ∧ _ ∧ _ ∧ _ ∧ _ ∧ _ ∧ AllLt _ _).2.2.2.2.2.2.2.2.2.2.2.2 | exact (by with_reducible assumption : _ ∧ _ ∧ _ ∧ _ ∧ _ ∧ _ ∧ _ ∧ _ ∧ _ ∧ _ ∧ _ ∧ _ ∧ _ ∧ AllLt _ _).2.2.2.2.2.2.2.2.2.2.2.2.2 | exact (by with_reducible assumption : _ ∧ _ ∧ _ ∧ _ ∧ _ ∧ _ ∧ _ ∧ _ ∧ _ ∧ _ ∧ _ ∧ _ ∧ _ ∧ _ ∧ AllLt _ _).2.2.2.2.2.2.2.2.2.2.2.2.2.2 | exact (by with_reducible assumption : _ ∧ _ ∧ _ ∧ _ ∧ _ ∧ _ ∧ _ ∧ _ ∧ _ ∧ _ ∧ _ ∧ _ ∧ _ ∧ _ ∧ _ ∧ AllLt _ _).2.2.2.2.2.2.2.2.2.2.2.2.2.2.2 | exact (by with_reducible assumption : _ ∧ _ ∧ _ ∧ _ ∧ _ ∧ _ ∧ _ ∧ _ ∧ _ ∧ _ ∧ _ ∧ _ ∧ _ ∧ _ ∧ _ ∧ _ ∧ AllLt _ _).2.2.2.2.2.2.2.2.2.2.2.2.2.2.2.2 | exact (by with_reducible assumption : _ ∧ _ ∧ _ ∧ _ ∧ _ ∧ _ ∧ _ ∧ _ ∧ _ ∧ _ ∧ _ ∧ _ ∧ _ ∧ _ ∧ _ ∧ _ ∧ _ ∧ AllLt _ _).2.2.2.2.2.2.2.2.2.2.2.2.2.2.2.2.2 | exact (by with_reducible assumption : _ ∧ _ ∧ _ ∧ _ ∧ _ ∧ _ ∧ _ ∧ _ ∧ _ ∧ _ ∧ _ ∧ _ ∧ _ ∧ _ ∧ _ ∧ _ ∧ _ ∧ _ ∧ AllLt _ _).2.2.2.2.2.2.2.2.2.2.2.2.2.2.2.2.2.2 | exact (by with_reducible assumption : _ ∧ _ ∧ _ ∧ _ ∧ _ ∧ _ ∧ _ ∧ _ ∧ _ ∧ _ ∧ _ ∧ _ ∧ _ ∧ _ ∧ _ ∧ _ ∧ _ ∧ _ ∧ _ ∧ AllLt _ _).2.2.2.2.2.2.2.2.2.2.2.2.2.2.2.2.2.2.2 | exact (by with_reducible assumption : _ ∧ _ ∧ _ ∧ _ ∧ _ ∧ _ ∧ _ ∧ _ ∧ _ ∧ _ ∧ _ ∧ _ ∧ _ ∧ _ ∧ _ ∧ _ ∧ _ ∧ _ ∧ _ ∧ _ ∧ AllLt _ _).2.2.2.2.2.2.2.2.2.2.2.2.2.2.2.2.2.2.2.2 | exact (by with_reducible assumption : _ ∧ _ ∧ _ ∧ _ ∧ _ ∧ _ ∧ _ ∧ _ ∧ _ ∧ _ ∧ _ ∧ _ ∧ _ ∧ _ ∧ _ ∧ _ ∧ _ ∧ _ ∧ _ ∧ _ ∧ _ ∧ AllLt _ _).2.2.2.2.2.2.2.2.2.2.2.2.2.2.2.2.2.2.2.2.2 | exact (by with_reducible assumption : _ ∧ _ ∧ _ ∧ _ ∧ _ ∧ _ ∧ _ ∧ _ ∧ _ ∧ _ ∧ _ ∧ _ ∧ _ ∧ _ ∧ _ ∧ _ ∧ _ ∧ _ ∧ _ ∧ _ ∧ _ ∧ _ ∧ AllLt _ _).2.2.2.2.2.2.2.2.2.2.2.2.2.2.2.2.2.2.2.2.2.2 | exact (by with_reducible assumption : _ ∧ _ ∧ _ ∧ _ ∧ _ ∧ _ ∧ _ ∧ _ ∧ _ ∧ _ ∧ _ ∧ _ ∧ _ ∧ _ ∧ _ ∧ _ ∧ _ ∧ _ ∧ _ ∧ _ ∧ _ ∧ _ ∧ _ ∧ AllLt _ _).2.2.2.2.2.2.2.2.2.2.2.2.2.2.2.2.2.2.2.2.2.2.2 | exact (by with_reducible assumption : _ ∧ _ ∧ _ ∧ _ ∧ _ ∧ _ ∧ _ ∧ _ ∧ _ ∧ _ ∧ _ ∧ _ ∧ _ ∧ _ ∧ _ ∧ _ ∧ _ ∧ _ ∧ _ ∧ _ ∧ _ ∧ _ ∧ _ ∧ _ ∧ AllLt _ _).2.2.2.2.2.2.2.2.2.2.2.2.2.2.2.2.2.2.2.2.2.2.2.2 | exact (by with_reducible assumption : _ ∧ _ ∧ _ ∧ _ ∧ _ ∧ _ ∧ _ ∧ _ ∧ _ ∧ _ ∧ _ ∧ _ ∧ _ ∧ _ ∧ _ ∧ _ ∧ _ ∧ _ ∧ _ ∧ _ ∧ _ ∧ _ ∧ _ ∧ _ ∧ _ ∧ AllLt _ _).2.2.2.2.2.2.2.2.2.2.2.2.2.2.2.2.2.2.2.2.2.2.2.2.2)
local macro_rules | `(tactic| walk_at "call ref") => `(tactic| (k_here; (with_reducible show wpAny _ _ (call (Value.ref 215) [Value.ref _, Value.int _ _, Value.ref _] _) _ _ _); k_dflt (refine' c_doneP _ _ _ _ _ _ _ _ _ _ _ _ _ _ _ _ _ _ _ _ _ _ _ _ _ _ _ _ _ _ ?hx ?hl ?hU ?mx ?mo ?w1 ?w2 _ _ _ _ _ _ _ _ _ _ _ _ _ _ ?k1 ?k2 ?k3 ?k4 ?k5 ?kK ?kd ?ku ?_; (case k1 => k_asm); (case k2 => k_asm); (case k3 => k_asm); (case k4 => k_asm); (case k5 => k_asm); (case mx => k_mem); (case mo => k_mem); (case hU => k_updF); (case hx => k_ne); (case hl => k_ne); (case w1 => assumption); (case w2 => assumption); (case kK => first | exact rfl | assumption); (case kd => walk_at "my room"); (case ku => walk_at "my room"); (unfold Bck; intro v9 n9 h' tk' F' N' r9; rcases r9 with ⟨t9, e9, hno9, e8⟩ | ⟨t9, y9, dy9, ka, kb, ta9, tm9, t0', t1', e9, hfa9, hfm9, e8, hl9, lx1⟩; (focus (subst e9; subst e8; (have hno8 := gd_no hno9); (try dsimp only); (try k_fold))); rotate_left; (focus (subst e9; subst e8; (have hp8 := (wd_pos hfa9).1); (have hp9 := (wd_pos hfm9).1); (have hp7 := gd_yes hp8 hp9); (try k_lt hl9); unfold belowN at lx1; (try dsimp only at N'); (try dsimp only); (try k_fold))); rotate_left))))
local macro_rules | `(tactic| walk_at "call ref") => `(tactic| (k_here; (with_reducible show wpAny _ _ (call (Value.ref 229) [Value.ref _, Value.ref _, Value.int 300 _, Value.int 7 _] _) _ _ _); k_dflt (refine' c_dueW _ _ _ _ _ _ _ _ _ none none _ _ _ _ 0 0 _ _ _ _ ?h0 ?h1 ?ha ?hb ?m1 ?m2 _ _ _ _ _ _ _ _ _ _ _ _ _ _ _ _ ?k1 ?k2 ?k3 ?k4 ?k5 ?kK ?kd ?ku ?_ ?_; (case k1 => k_asm); (case k2 => k_asm); (case k3 => k_asm); (case k4 => k_asm); (case k5 => k_asm); (case m1 => k_mem); (case m2 => k_mem); (case h0 => decide); (case h1 => decide); (case ha => first | rfl | decide +kernel); (case hb => first | rfl | decide +kernel); (case kK => first | exact rfl | assumption); (case kd => walk_at "my room"); (case ku => walk_at "my room"); (focus (unfold Bck; intro v9 n9 h' tk' F' N' r9; obtain ⟨add9, e9, ha9, hD9⟩ := r9; subst e9; (have N2 := ins_news N' (by walk_at "my ins")); clear N'; (try dsimp only); (try k_fold))); rotate_left; (focus (unfold Rai; intro n9 r9; (exact r9.2.elim))))))
local macro_rules | `(tactic| walk_at "compareOp Eq ref ref") => `(tactic| (k_here; (with_reducible show wpAny _ _ (compareOp _ (Value.ref _) (Value.ref _)) _ _ _); k_dflt (refine' eq_fin ?N ?ma ?mb ?Da ?Db ?hT ?hD ?sl ?sT ?sD ?hds ?hk ?hu ?_; (case N => k_asm); (case ma => k_mem); (case mb => k_mem); (case Da => with_reducible assumption); (case Db => with_reducible assumption); (case hT => with_reducible assumption); (case hD => with_reducible assumption); (case sl => walk_at "my sub9"); (case sT => walk_at "my sub9"); (case sD => walk_at "my sub9"); (case hds => with_reducible assumption); (case hk => exact rowW_ok5 _ _ _ _); (case hu => ke_room); k_whole)))
set_option maxHeartbeats 8000000 in
theorem law_t : PySem.Challenge.rw_fe0333_01.Holds := hd (by
  k_go0
  refine' cut8 MidA ?cF ?h1 ?h2
  case cF => k_asm
  case h1 =>
    (iterate 26 (first | (k_unfold; (try dsimp only)) | (k_end; wrow_close) | walk1 | (dsimp only; walk1) | (leave1; walk_say "STEP leave1"; (try dsimp only))))
    k_dflt (refine kba_turn (value' := PySem.Expr.Name (PySem.Str.ofString "_") ⟨0, 0, 0, 0⟩) (fun _ => rfl) ?_)
    k_dflt (refine' slice13 ?F ?N ?l ?i ?g ?_ ?s ?t ?z)
    case F => k_asm
    case N => k_asm
    case i => assumption
    case l => exact News.isList (by k_asm) (by k_mem)
    case g => (rw [List.length_append]; exact Nat.le_add_left_of_le (by decide))
    case t => kmk_pure
    case z => exact size13 (k := 63) (by assumption) (by omega) (by decide)
    case s => with_unfolding_all rfl
    intro D' a9 b9 c9 t1 t2 t3 ws9 rs9 h' F' N' l1 hI9 hlen9
    (try k_lt l1)
    (try k_sweep)
    k_steps
    all_goals (refine ⟨rfl, _, _, rfl, ?_⟩; refine' MidA.mk ?F ?N ?e1 ?e2 ?e3 ?e4 ?e5 ?e6 ?e7 ?m1 ?m2 ?m3 ?m4 ?m5 ?m6 ?d6 ?m7 ?m8 ?d8 ?m9 ?m10 ?m11 ?w0 ?w1 ?m12 ?hI ?hl ?hva ?hvs ?ha ?hm ?ord; (case F => k_asm); (case N => k_asm); (case e1 => exact rfl); (case e2 => exact rfl); (case e3 => exact rfl); (case e4 => exact rfl); (case e5 => exact rfl); (case e6 => exact rfl); (case e7 => exact rfl); (case m1 => k_mem); (case m2 => k_mem); (case m3 => k_mem); (case m4 => k_mem); (case m5 => k_mem); (case m6 => k_mem); (case d6 => assumption); (case m7 => k_mem); (case m8 => k_mem); (case d8 => assumption); (case m9 => k_mem); (case m10 => k_mem); (case m11 => k_mem); (case w0 => first | rfl | decide +kernel); (case w1 => first | rfl | decide +kernel); (case m12 => k_mem); (case hI => assumption); (case hl => assumption); (case hva => first | assumption | decide); (case hvs => first | assumption | decide); (case ha => assumption); (case hm => assumption); (case ord => omega))
    all_goals exact 0
  case h2 =>
    intro hM tkM rM
    obtain ⟨mM, va, vs, c0, c1, t0, t1, t0', t1', u0, u1, tva, tvs, k1, k2, k3, k4, k5, tv1, tv2, ka, kb, tm, ta, tz, tz', n1, n2, n3, lm, lt, ld, lw, ln, lc, x, dx, y, dy, nm, nt, nd, nw, nc, oc, oo, z, a, b, c, ws, rs, FM, NM, dC, dO, hI9, hlen9, hva, hvs, hfa, hfm, o1, o2, o3, o4, o5, o6, o7, o8, o9, o10, o11⟩ := rM
    k_steps
    refine' loop_main ?hh ?hL ?F ?N ?e1 ?e2 ?e3 ?e4 ?e5 ?e6 ?e7 ?d4 ?d5 ?hI ?hT ?hD ?ha ?hm ?hoff ?hoT ?hoD ?turn ?done
    case hh => exact rfl
    case F => k_asm
    case N => k_asm
    case hL => exact rfl
    case e1 => exact rfl
    case e2 => exact rfl
    case e3 => exact rfl
    case e4 => exact rfl
    case e5 => exact rfl
    case e6 => exact rfl
    case e7 => exact rfl
    case d4 => assumption
    case d5 => assumption
    case hI => assumption
    case hT => assumption
    case hD => assumption
    case ha => assumption
    case hm => assumption
    case hoff =>
      iterate 10 (refine List.forall_mem_cons.mpr ⟨by walk_at "my off5", ?_⟩)
      exact List.forall_mem_nil _
    case hoT => exact off5_apart (by assumption) (by k_mem) (by k_mem) (by k_mem) (by k_mem) (by k_mem)
    case hoD => exact off5_apart (by assumption) (by k_mem) (by k_mem) (by k_mem) (by k_mem) (by k_mem)
    case done =>
      intro x2 hx2 lwD ntD ndD told due ds tl mD hD tkD hTold hDue hds hOff hO1 hO2 hO3 hO4 FD ND
      have hK9 := in_base FD (by assumption)
      have hln := hI9.length
      have hsz := size_data (k := 12) hTold hds.out.1 (by rw [IntsAre.length (by assumption : IntsAre _ (List.drop 3 _)), List.length_drop]; simp only [List.length_cons]; omega) (by decide)
      have hsz' := size_data (k := 12) hDue hds.out.1 (by rw [IntsAre.length (by assumption : IntsAre _ (List.drop 3 _)), List.length_drop]; simp only [List.length_cons]; omega) (by decide)
      (try dsimp only)
      k_steps
    case turn =>
      intro x2 hx2 i n t c0 c1 t0 t1 t0' t1' u0 u1 ka kb tm ta y dy lc lw nc nw nt nd oc oo ov told due ds tl own mT hT tkT hn hiR hcst hTold hDue hds dC dO hfa hfm n6 n7 n8 n9 n10 hoff hoffo hown FT NT
      have hOff := off5_all (fun p hp => (List.mem_append.mp hp).elim (hoff p) (hoffo p))
      have hOx : Off5 lt ld dx _ x := hoff _ n6
      have hOy : Off5 lt ld dx _ y := hoff _ n7
      have hOz : Off5 lt ld dx _ dy := hoff _ n8
      have hOc : Off5 lt ld dx _ lc := hoff _ n9
      have hOw : Off5 lt ld dx _ lw := hoff _ n10
      have hsz := size_data (k := 12) hTold hds.1 (by rw [List.length_drop] at hiR; simp only [List.length_cons] at hiR; omega) (by decide)
      have hsz' := size_data (k := 12) hDue hds.1 (by rw [List.length_drop] at hiR; simp only [List.length_cons] at hiR; omega) (by decide)
      replace hOff := Keep9.mk hOff
      replace hcst := Keep9.mk hcst
      replace hoff := Keep9.mk hoff
      replace hoffo := Keep9.mk hoffo
      replace hown := Keep9.mk hown
      replace hds := Keep9.mk hds
      have hK9 := in_base FT (by assumption)
      refine' cut3 (MidB c0 c1 t0 t1 t0' t1' u0 u1 ka kb tm ta tva tvs k1 k2 k3 k4 k5 tv1 tv2 x x2 y dy lc lw lt ld dx nc nw nt nd oc told due va vs (tl ++ own)) ?cF ?b1 ?b2
      case cF => k_asm
      case b1 =>
        k_steps
        · refine ⟨rfl, _, _, rfl, ?_⟩
          (refine' MidB.mk ?F ?N ?e0 ?e1 ?e2 ?e3 ?e4 ?e5 ?e6 ?e7 ?m1 ?d1 ?m2 ?hs ?hw1 ?hw2 ?hl; (case F => k_asm); (case N => k_asm); (case m1 => k_mem); (case d1 => assumption); (case m2 => k_mem); (case e0 => exact rfl); (case e1 => exact rfl); (case e2 => exact rfl); (case e3 => exact rfl); (case e4 => exact rfl); (case e5 => exact rfl); (case e6 => exact rfl); (case e7 => exact rfl); (case hs => ((iterate 10 (refine List.forall_mem_cons.mpr ⟨by k_mem, ?_⟩)); walk_at "my sub9")); (case hl => walk_at "my lts"); (case hw1 => exact fun h => absurd h (by assumption)); (case hw2 => exact fun h0 h1 => absurd (fm3_two h0 h1) (by assumption)))
        · refine ⟨rfl, _, _, rfl, ?_⟩
          (refine' MidB.mk (o1 := none) (s1 := 0) ?F ?N ?e0 ?e1 ?e2 ?e3 ?e4 ?e5 ?e6 ?e7 ?m1 ?d1 ?m2 ?hs ?hw1 ?hw2 ?hl; (case F => k_asm); (case N => k_asm); (case m1 => k_mem); (case d1 => assumption); (case m2 => k_mem); (case e0 => exact rfl); (case e1 => exact rfl); (case e2 => exact rfl); (case e3 => exact rfl); (case e4 => exact rfl); (case e5 => exact rfl); (case e6 => exact rfl); (case e7 => exact rfl); (case hs => ((iterate 10 (refine List.forall_mem_cons.mpr ⟨by k_mem, ?_⟩)); walk_at "my sub9")); (case hl => walk_at "my lts"); (case hw1 => exact fun _ => rfl); (case hw2 => exact fun h0 h1 => absurd (fm3_two h0 h1) (by assumption)))
        · refine ⟨rfl, _, _, rfl, ?_⟩
          (refine' MidB.mk (o0 := none) (s0 := 0) ?F ?N ?e0 ?e1 ?e2 ?e3 ?e4 ?e5 ?e6 ?e7 ?m1 ?d1 ?m2 ?hs ?hw1 ?hw2 ?hl; (case F => k_asm); (case N => k_asm); (case m1 => k_mem); (case d1 => assumption); (case m2 => k_mem); (case e0 => exact rfl); (case e1 => exact rfl); (case e2 => exact rfl); (case e3 => exact rfl); (case e4 => exact rfl); (case e5 => exact rfl); (case e6 => exact rfl); (case e7 => exact rfl); (case hs => ((iterate 10 (refine List.forall_mem_cons.mpr ⟨by k_mem, ?_⟩)); walk_at "my sub9")); (case hl => walk_at "my lts"); (case hw1 => exact fun h => absurd h (by assumption)); (case hw2 => exact fun _ _ => rfl))
        · exact absurd ((by assumption : _ = (2 : Int)).symm.trans (by assumption : _ = (1 : Int))) (by decide)
      case b2 =>
        intro hM2 tk2 rM2
        obtain ⟨wy, tw, s0, s1, o0, o1, lo, no, oo2, m9, FB, NB, dOO, hw1, hw2, hlB⟩ := rM2
        k_lt hlB
        refine' cut1 (MidC c0 c1 t0 t1 t0' t1' u0 u1 ka kb tm ta tva tvs k1 k2 k3 k4 k5 tv1 tv2 x x2 y dy lc lw lt ld dx nc nw nt nd oc told due va vs (tl ++ own) oo2 wy tw s0 s1 o0 o1 lo no) ?cF ?b1 ?b2
        case cF => k_asm
        case b1 =>
          cases c0 <;> cases c1
          all_goals (dsimp only [cellV] at NB)
          all_goals k_steps
          all_goals (refine ⟨rfl, _, _, rfl, ?_⟩; refine' MidC.mk ?F ?N ?e8 ?e0 ?e1 ?e2 ?e3 ?e4 ?e5 ?e6 ?e7 ?m2 ?hs ?hl; (case F => k_asm); (case N => k_asm); (case e8 => exact rfl); (case e0 => exact rfl); (case e1 => exact rfl); (case e2 => exact rfl); (case e3 => exact rfl); (case e4 => exact rfl); (case e5 => exact rfl); (case e6 => exact rfl); (case e7 => exact rfl); (case m2 => first | k_mem | with_unfolding_all k_mem); (case hs => walk_at "my subs11"); (case hl => with_unfolding_all assumption))
          all_goals exact 0
        case b2 =>
          intro hM3 tk3 rM3
          obtain ⟨r0, r1, la, na, m8, FC, NC, hOa, hla⟩ := rM3
          k_steps
          · refine' close_refused ?F ?N ?e1 ?e2 ?e3 ?e4 ?e5 ?e6 ?e7 ?d4 ?d5 ?hT ?hD ?ha ?hm ?n7 ?n8 ?n9 ?n10 ?hcst ?hl ?n6 ?hT0 ?hD0 ?hds ?hs9 ?hoff ?hoffo ?ho ?f1 ?g1 ?f2 ?g2 ?f3 ?g3 ?f4 ?g4
            case F => k_asm
            case N => k_asm
            case e1 => exact rfl
            case e2 => exact rfl
            case e3 => exact rfl
            case e4 => exact rfl
            case e5 => exact rfl
            case e6 => exact rfl
            case e7 => exact rfl
            case d4 => assumption
            case d5 => assumption
            case hT => with_reducible assumption
            case hD => with_reducible assumption
            case ha => with_reducible assumption
            case hm => with_reducible assumption
            case n7 => with_reducible assumption
            case n8 => with_reducible assumption
            case n9 => with_reducible assumption
            case n10 => with_reducible assumption
            case hcst => exact hcst.out
            case hl => exact List.Mem.head _
            case n6 => exact n6
            case hT0 => exact hTold
            case hD0 => exact hDue
            case hds => exact hds.out
            case hs9 => decide +kernel
            case hoff => exact hoff.out
            case hoffo => exact hoffo.out
            case ho => exact hown.out
            case f1 => walk_at "my off5"
            case g1 => walk_at "my allt"
            case f2 => walk_at "my off5"
            case g2 => walk_at "my allt"
            case f3 => exact off5_apart (by with_reducible assumption) (by k_mem) (by k_mem) (by k_mem) (by k_mem) (by k_mem)
            case g3 => exact apart_own (by with_reducible assumption) (by walk_at "my addin")
            case f4 => exact off5_apart (by with_reducible assumption) (by k_mem) (by k_mem) (by k_mem) (by k_mem) (by k_mem)
            case g4 => exact apart_own (by with_reducible assumption) (by walk_at "my addin")
          · refine' close_refused ?F ?N ?e1 ?e2 ?e3 ?e4 ?e5 ?e6 ?e7 ?d4 ?d5 ?hT ?hD ?ha ?hm ?n7 ?n8 ?n9 ?n10 ?hcst ?hl ?n6 ?hT0 ?hD0 ?hds ?hs9 ?hoff ?hoffo ?ho ?f1 ?g1 ?f2 ?g2 ?f3 ?g3 ?f4 ?g4
            case F => k_asm
            case N => k_asm
            case e1 => exact rfl
            case e2 => exact rfl
            case e3 => exact rfl
            case e4 => exact rfl
            case e5 => exact rfl
            case e6 => exact rfl
            case e7 => exact rfl
            case d4 => assumption
            case d5 => assumption
            case hT => with_reducible assumption
            case hD => with_reducible assumption
            case ha => with_reducible assumption
            case hm => with_reducible assumption
            case n7 => with_reducible assumption
            case n8 => with_reducible assumption
            case n9 => with_reducible assumption
            case n10 => with_reducible assumption
            case hcst => exact hcst.out
            case hl => exact List.Mem.head _
            case n6 => exact n6
            case hT0 => exact hTold
            case hD0 => exact hDue
            case hds => exact hds.out
            case hs9 => decide +kernel
            case hoff => exact hoff.out
            case hoffo => exact hoffo.out
            case ho => exact hown.out
            case f1 => walk_at "my off5"
            case g1 => walk_at "my allt"
            case f2 => walk_at "my off5"
            case g2 => walk_at "my allt"
            case f3 => exact off5_apart (by with_reducible assumption) (by k_mem) (by k_mem) (by k_mem) (by k_mem) (by k_mem)
            case g3 => exact apart_own (by with_reducible assumption) (by walk_at "my addin")
            case f4 => exact off5_apart (by with_reducible assumption) (by k_mem) (by k_mem) (by k_mem) (by k_mem) (by k_mem)
            case g4 => exact apart_own (by with_reducible assumption) (by walk_at "my addin")
          · refine' close_done ?F ?N ?e1 ?e2 ?e3 ?e4 ?e5 ?e6 ?e7 ?d4 ?d5 ?hT ?hD ?ha ?hm ?f5 ?f6 ?g6 ?hyy ?f7 ?g7 ?f8 ?g8 ?hcst ?hl ?n6 ?hT0 ?hD0 ?hds ?hs9 ?hoff ?hoffo ?ho ?f1 ?g1 ?f2 ?g2 ?f3 ?g3 ?f4 ?g4
            case F => k_asm
            case N => k_asm
            case e1 => exact rfl
            case e2 => exact rfl
            case e3 => exact rfl
            case e4 => exact rfl
            case e5 => exact rfl
            case e6 => exact rfl
            case e7 => exact rfl
            case d4 => assumption
            case d5 => assumption
            case hT => with_reducible assumption
            case hD => with_reducible assumption
            case ha => with_reducible assumption
            case hm => with_reducible assumption
            case f5 => walk_at "my off5"
            case f6 => walk_at "my off5"
            case g6 => walk_at "my allt"
            case hyy => assumption
            case f7 => walk_at "my off5"
            case g7 => walk_at "my allt"
            case f8 => assumption
            case g8 => exact hla.out
            case hcst => exact hcst.out
            case hl => exact List.Mem.head _
            case n6 => exact n6
            case hT0 => exact hTold
            case hD0 => exact hDue
            case hds => exact hds.out
            case hs9 => decide +kernel
            case hoff => exact hoff.out
            case hoffo => exact hoffo.out
            case ho => exact hown.out
            case f1 => walk_at "my off5"
            case g1 => walk_at "my allt"
            case f2 => walk_at "my off5"
            case g2 => walk_at "my allt"
            case f3 => exact off5_apart (by with_reducible assumption) (by k_mem) (by k_mem) (by k_mem) (by k_mem) (by k_mem)
            case g3 => exact apart_own (by with_reducible assumption) (by walk_at "my addin")
            case f4 => exact off5_apart (by with_reducible assumption) (by k_mem) (by k_mem) (by k_mem) (by k_mem) (by k_mem)
            case g4 => exact apart_own (by with_reducible assumption) (by walk_at "my addin"))
end
/-- the lines that were read for the part above are not those of the next one -/
theorem pause_LF : True ∧ True := by first | (walk1; fail) | exact ⟨trivial, trivial⟩
end Mine
theorem PySem.Challenge.cw_fe0333_01_holds : PySem.Challenge.rw_fe0333_01.Holds :=
  Mine.law_t
