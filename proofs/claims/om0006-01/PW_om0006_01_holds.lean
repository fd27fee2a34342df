import PyProof.Rows.All
import Wide.All
import OpenK.AllK
import Wide.FinOn
import Lean
import PySem.Challenge.RW_om0006_01
open PySem PySem.W PyProof.Rows PySem.Calls PySem.Spec
set_option Elab.async false
set_option maxRecDepth 100000
set_option maxHeartbeats 8000000
set_option linter.all false
namespace Mine
open_top hd for PySem.Challenge.rw_om0006_01
end Mine
-- Con0
namespace Mine
theorem c_ifmt (w : World) (mean : ExcName → Option Value) (mg mb : Str → Option Value) (news : List (Addr × Obj)) (v : Int) (t : Tok) :
    CbClaim PySem.Challenge.rw_om0006_01.row.prog w (hd.heap_39 w.params) hd.view_39 (looseW hd.view_39 [Str.ofString "_filemode_table"]) mean mg mb 28 news [] True [.int v t] (fun t => .int (Builtin.bitAnd v 61440) t) := by
  dsimp only [CbClaim, CbLists, CbRet]
  k_fill
  intros; rename_i hret
  refine wpAny_call ?_
  k_dflt cell_enter
  k_steps
  trace_state
  all_goals cb_end hret
theorem c_imode (w : World) (mean : ExcName → Option Value) (mg mb : Str → Option Value) (news : List (Addr × Obj)) (v : Int) (t : Tok) :
    CbClaim PySem.Challenge.rw_om0006_01.row.prog w (hd.heap_39 w.params) hd.view_39 (looseW hd.view_39 [Str.ofString "_filemode_table"]) mean mg mb 21 news [] True [.int v t] (fun t => .int (Builtin.bitAnd v 4095) t) := by
  dsimp only [CbClaim, CbLists, CbRet]
  k_fill
  intros; rename_i hret
  refine wpAny_call ?_
  k_dflt cell_enter
  k_steps
  all_goals cb_end hret
end Mine
-- Con1
namespace Mine
def chr8 (x : Int) : UInt8 := UInt8.ofNat (65 + x.toNat)
def wordOf (d3 d2 d1 d0 : Int) : Array UInt8 :=
  if d3 ≠ 0 then #[chr8 d3, chr8 d2, chr8 d1, chr8 d0] else if d2 ≠ 0 then #[chr8 d2, chr8 d1, chr8 d0] else if d1 ≠ 0 then #[chr8 d1, chr8 d0] else if d0 ≠ 0 then #[chr8 d0] else #[]
theorem lt16 {P : Int → Prop} {x : Int} (h0 : 0 ≤ x) (h1 : x < 16)
    (h : P 0 ∧ P 1 ∧ P 2 ∧ P 3 ∧ P 4 ∧ P 5 ∧ P 6 ∧ P 7 ∧ P 8 ∧ P 9 ∧ P 10 ∧ P 11 ∧ P 12 ∧ P 13 ∧ P 14 ∧ P 15) : P x := by
  obtain ⟨h0, h1, h2, h3, h4, h5, h6, h7, h8, h9, h10, h11, h12, h13, h14, h15⟩ := h
  have : x = 0 ∨ x = 1 ∨ x = 2 ∨ x = 3 ∨ x = 4 ∨ x = 5 ∨ x = 6 ∨ x = 7 ∨ x = 8 ∨ x = 9 ∨ x = 10 ∨ x = 11 ∨ x = 12 ∨ x = 13 ∨ x = 14 ∨ x = 15 := by omega
  rcases this with h | h | h | h | h | h | h | h | h | h | h | h | h | h | h | h <;> subst h <;> assumption
theorem picked_ap {x : Int} (h0 : 0 ≤ x) (h1 : x < 16) : KBy.picked #[65, 66, 67, 68, 69, 70, 71, 72, 73, 74, 75, 76, 77, 78, 79, 80] (some x) (some (x + 1)) = #[chr8 x] := by
  refine lt16 (P := fun x => KBy.picked #[65, 66, 67, 68, 69, 70, 71, 72, 73, 74, 75, 76, 77, 78, 79, 80] (some x) (some (x + 1)) = #[chr8 x]) h0 h1 ?_
  refine ⟨?_, ?_, ?_, ?_, ?_, ?_, ?_, ?_, ?_, ?_, ?_, ?_, ?_, ?_, ?_, ?_⟩ <;> decide +kernel
theorem ap_slice {prog : Program} {w : World} {A : Around} {E : Value → Shared → Prop} {s : Shared} {value slice : PySem.Expr} {t tx ty : Tok} {h₀ : Heap} {L : Addr} {m : PySem.Str → Option Value} {news : List (Addr × Obj)} {x : Int} {Q : Value → Shared → Prop}
    (hF : Fr h₀ L s.heap m) (hN : News h₀ L s.heap news) (h0 : 0 ≤ x) (h1 : x < 16)
    (h : ∀ h' t' k, Fr h₀ L h' m → News h₀ L h' news → Q (.bytes #[chr8 x] t') { s with heap := h', toks := k })
    (hs : subscripted slice false (.bytes #[65, 66, 67, 68, 69, 70, 71, 72, 73, 74, 75, 76, 77, 78, 79, 80] t) (.ref s.heap.objs.size) = operate [.ref s.heap.objs.size, .bytes #[65, 66, 67, 68, 69, 70, 71, 72, 73, 74, 75, 76, 77, 78, 79, 80] t] (getItem (.bytes #[65, 66, 67, 68, 69, 70, 71, 72, 73, 74, 75, 76, 77, 78, 79, 80] t) (.ref s.heap.objs.size)) := by with_unfolding_all rfl)
    (ht : ∀ r, letTemporaryGo value (.bytes #[65, 66, 67, 68, 69, 70, 71, 72, 73, 74, 75, 76, 77, 78, 79, 80] t) r = pure () := by intro _; with_unfolding_all rfl) :
    wpAny (model prog w) A (subscriptTail value slice (.bytes #[65, 66, 67, 68, 69, 70, 71, 72, 73, 74, 75, 76, 77, 78, 79, 80] t) (.ref s.heap.objs.size)) Q E { s with heap := s.heap.push { cls := .type "slice", data := .fields #[.int x tx, .int (x + 1) ty, .none] } } := by
  refine KBc.slice_K hF hN rfl (IsPart.int _ _) (IsPart.int _ _) (by decide) ?_ hs ht
  intro h' t' k F N _
  rw [picked_ap h0 h1]
  exact h h' t' k F N
theorem divmod16 {prog : Program} {w : World} {A : Around} {E : Value → Shared → Prop} {s : Shared} {a : Int} {t u : Tok} {h₀ : Heap} {L : Addr} {m : Str → Option Value} {news : List (Addr × Obj)} {Q : Value → Shared → Prop} (F : Fr h₀ L s.heap m) (N : News h₀ L s.heap news)
    (h : ∀ h', Fr h₀ L h' m → News h₀ L h' ((s.heap.objs.size, { cls := .type "tuple", data := .seq #[.int (a / 16) s.toks, .int (a % 16) (s.toks + 1)] }) :: news) →
      Q (.ref s.heap.objs.size) { s with toks := s.toks + 1 + 1, heap := h' }) :
    wpAny (model prog w) A (call (.builtin "divmod") [.int a t, .int 16 u]) Q E s := by
  refine divmod_N F N (by decide) ?_
  rw [Int.fdiv_eq_ediv_of_nonneg a (by decide), Int.fmod_eq_emod_of_nonneg a (by decide)]
  exact h
theorem whlIf_split {x : Int} {T F : Prop} (h1 : x ≠ 0 → T) (h2 : x = 0 → F) : WhlIf (x != 0) T F := by
  unfold WhlIf
  by_cases h : x = 0
  · subst h; simpa using h2 rfl
  · rw [if_pos (by simpa using h)]; exact h1 h
def absI (v : Int) : Int := if v < 0 then -v else v
theorem absI_facts (v : Int) : (v < 0 → absI v = -v) ∧ (0 ≤ v → absI v = v) := by
  unfold absI; constructor <;> intro h <;> split <;> omega
theorem ret_bytes {h₀ h' : Heap} {L : Addr} {m : Str → Option Value} {news : List (Addr × Obj)} {s : Shared} {Q : Value → Shared → Prop} {t : Tok} {tk' : Nat} {x y : Array UInt8}
    (hret : ∀ (t : Tok) (h' : Heap) (tk' : Nat), Fr h₀ L h' m → News h₀ L h' news → Q (.bytes x t) { s with heap := h', toks := tk' }) (e : y = x) (F : Fr h₀ L h' m) (N : News h₀ L h' news) : Q (.bytes y t) { s with heap := h', toks := tk' } := by
  subst e
  exact hret t h' tk' F N
theorem word4 {x : Int} (h0 : 0 ≤ x) (h1 : x < 65536) (h : x / 16 / 16 / 16 ≠ 0) : #[chr8 (x / 16 / 16 / 16 % 16), chr8 (x / 16 / 16 % 16), chr8 (x / 16 % 16), chr8 (x % 16)] = wordOf (x / 4096) (x / 256 % 16) (x / 16 % 16) (x % 16) := by
  unfold wordOf
  rw [if_pos (by omega), show x / 16 / 16 / 16 % 16 = x / 4096 by omega, show x / 16 / 16 % 16 = x / 256 % 16 by omega]
theorem word3 {x : Int} (h0 : 0 ≤ x) (h1 : x / 16 / 16 / 16 = 0) (h : x / 16 / 16 ≠ 0) : #[chr8 (x / 16 / 16 % 16), chr8 (x / 16 % 16), chr8 (x % 16)] = wordOf (x / 4096) (x / 256 % 16) (x / 16 % 16) (x % 16) := by
  unfold wordOf
  rw [if_neg (by omega), if_pos (by omega), show x / 16 / 16 % 16 = x / 256 % 16 by omega]
theorem word2 {x : Int} (h0 : 0 ≤ x) (h1 : x / 16 / 16 = 0) (h : x / 16 ≠ 0) : #[chr8 (x / 16 % 16), chr8 (x % 16)] = wordOf (x / 4096) (x / 256 % 16) (x / 16 % 16) (x % 16) := by
  unfold wordOf
  rw [if_neg (by omega), if_neg (by omega), if_pos (by omega)]
theorem word1 {x : Int} (h0 : 0 ≤ x) (h1 : x / 16 = 0) (h : x ≠ 0) : #[chr8 (x % 16)] = wordOf (x / 4096) (x / 256 % 16) (x / 16 % 16) (x % 16) := by
  unfold wordOf
  rw [if_neg (by omega), if_neg (by omega), if_neg (by omega), if_pos (by omega)]
theorem word0 {x : Int} (h : x = 0) : #[] = wordOf (x / 4096) (x / 256 % 16) (x / 16 % 16) (x % 16) := by
  unfold wordOf
  rw [if_neg (by omega), if_neg (by omega), if_neg (by omega), if_neg (by omega)]
local macro_rules | `(tactic| walk_at "exec While Name cons nil") => `(tactic| (k_here; k_dflt (refine whl_start 6 ?_)))
local macro_rules | `(tactic| walk_at "WhlIf") => `(tactic| (refine whlIf_split (fun hb => ?_) (fun hb => ?_); (all_goals (try (exfalso; omega)))))
local macro_rules | `(tactic| walk_at "call builtin:divmod") => `(tactic| (refine divmod16 (by assumption) (by assumption) ?_; intro _ _ _))
local macro_rules | `(tactic| walk_at "subscriptTail Name Slice bytes ref") => `(tactic| (k_here; (try dsimp only); (with_reducible rename Fr _ _ _ _ => F'); (with_reducible rename News _ _ _ _ => N'); (refine ap_slice (s := ⟨_, _, _, _, _⟩) F' N' (by omega) (by omega) ?_); intro _ _ _ _ _))
local macro_rules | `(tactic| walk_at "binaryOp Add bytes bytes") => `(tactic| (k_here; (refine KBy.add_bytes (by decide) ?_); intro _ _))
theorem c_ap (w : World) (mean : ExcName → Option Value) (mg mb : Str → Option Value) (news : List (Addr × Obj)) (v : Int) (t : Tok) (hv0 : -65536 < v) (hv : v < 65536) :
    CbClaim PySem.Challenge.rw_om0006_01.row.prog w (hd.heap_39 w.params) hd.view_39 (looseW hd.view_39 [Str.ofString "_filemode_table"]) mean mg mb 75 news [] True [.int v t] (fun t => .bytes (wordOf (absI v / 4096) (absI v / 256 % 16) (absI v / 16 % 16) (absI v % 16)) t) := by
  dsimp only [CbClaim, CbLists, CbRet]
  k_fill
  intros; rename_i hret
  refine wpAny_call ?_
  k_dflt cell_enter
  repeat' ((fail_if_success (with_reducible show wpAny _ _ (exec (Stmt.While _ _ _ _) _) _ _ _)); first | (k_unfold; (try dsimp only)) | (k_end; kc_close) | walk1 | (dsimp only; walk1) | (leave1; walk_say "STEP leave1"; (try dsimp only)) | fail "no step")
  have hx : (if v < 0 then -v else v) = absI v := rfl
  simp only [hx] at *
  have hxa : 0 ≤ absI v ∧ absI v < 65536 := by have := absI_facts v; omega
  generalize absI v = x at *
  k_steps
  all_goals refine ret_bytes hret ?_ (by k_asm) (by first | k_asm | (refine' cb_drop ?cbN ?cbS; (case cbN => assumption); (case cbS => kcj_all)))
  all_goals first | exact word4 hxa.1 hxa.2 (by assumption) | exact word3 hxa.1 (by assumption) (by assumption) | exact word2 hxa.1 (by assumption) (by assumption) | exact word1 hxa.1 (by assumption) (by assumption) | exact word0 (by assumption)
end Mine
-- Fm0
namespace Mine
open AutoSeq1 (wpAny_loadPart')
section
variable {prog : Program} {w : World} {A : Around} {E : Value → Shared → Prop} {s : Shared}

theorem nextOf_tuple_item {it t : Addr} {i : Nat} {items : Array Value} {x : Value} {Q : Value → Shared → Prop} (hit : s.heap.IsTupleIter it t i)
    (ht : s.heap.IsTuple t items) (hx : items[i]? = some x)
    (hQ : ∀ h', h'.IsTupleIter it t (i + 1) → Heap.SameBut it s.heap h' → Q x { s with heap := h' }) :
    wpAny (model prog w) A (Builtin.SmallTypes.nextOf (.ref it)) Q E s := by
  obtain ⟨o, ho, hc, hd⟩ := id hit
  obtain ⟨ol, hol, _, nl, hdl⟩ := ht
  unfold Builtin.SmallTypes.nextOf
  refine wpAny_bind (wpAny_callSpecial?_slot (name := Str.ofString "__next__") hit.typeIs F.slot_tuple_iterator_next
    (wpAny_call_entry F.slot_tuple_iterator_next hit.typeIs F.entry_tuple_iterator_next ?_ (F.args_tuple_iterator_next_1 _)))
  show wpAny _ _ (field (.ref it) 0 >>= _) _ _ s
  refine wpAny_bind (wpAny_field ho hd (x := .ref t) rfl ?_)
  show wpAny _ _ (if (Value.ref t == Value.none) = true then _ else _) _ _ s
  rw [if_neg (show ¬ ((Value.ref t == Value.none) = true) from Bool.false_ne_true)]
  show wpAny _ _ (field (.ref it) 1 >>= _) _ _ s
  refine wpAny_bind (wpAny_field ho hd (x := .int i 0) rfl ?_)
  show wpAny _ _ (seqItems? (.ref t) >>= _) _ _ s
  refine wpAny_bind (wpAny_seqItems hol hdl ?_)
  simp only [Int.toNat_natCast, hx]
  refine wpAny_bind (wpAny_setField ho hd (by simp) (wpAny_pure ⟨x, rfl, wpAny_pure (hQ _ ?_ (Heap.SameBut.update ..))⟩))
  exact ⟨_, Heap.get?_update_self _ ho (Obj.isFreed_of_fields (Obj.data_mapFields hd _)), (Obj.cls_mapFields ..).trans hc, by
    rw [Obj.data_mapFields hd]; simp [rawInt]⟩

theorem nextOf_tuple_end {it t : Addr} {i : Nat} {items : Array Value} {Q : Value → Shared → Prop} (hh : A.handled = none)
    (hit : s.heap.IsTupleIter it t i) (ht : s.heap.IsTuple t items) (hx : items[i]? = none)
    (hE : ∀ h' e, Heap.ExtBut it s.heap h' → (∃ o, h'.get? e = some o ∧ o.cls = .type "StopIteration") → E (.ref e) { s with heap := h' }) :
    wpAny (model prog w) A (Builtin.SmallTypes.nextOf (.ref it)) Q E s := by
  obtain ⟨o, ho, hc, hd⟩ := id hit
  obtain ⟨ol, hol, _, nl, hdl⟩ := ht
  unfold Builtin.SmallTypes.nextOf
  refine wpAny_bind (wpAny_callSpecial?_slot (name := Str.ofString "__next__") hit.typeIs F.slot_tuple_iterator_next
    (wpAny_call_entry F.slot_tuple_iterator_next hit.typeIs F.entry_tuple_iterator_next ?_ (F.args_tuple_iterator_next_1 _)))
  show wpAny _ _ (field (.ref it) 0 >>= _) _ _ s
  refine wpAny_bind (wpAny_field ho hd (x := .ref t) rfl ?_)
  show wpAny _ _ (if (Value.ref t == Value.none) = true then _ else _) _ _ s
  rw [if_neg (show ¬ ((Value.ref t == Value.none) = true) from Bool.false_ne_true)]
  show wpAny _ _ (field (.ref it) 1 >>= _) _ _ s
  refine wpAny_bind (wpAny_field ho hd (x := .int i 0) rfl ?_)
  show wpAny _ _ (seqItems? (.ref t) >>= _) _ _ s
  refine wpAny_bind (wpAny_seqItems hol hdl ?_)
  simp only [Int.toNat_natCast, hx]
  refine wpAny_bind (wpAny_rule (wpAny_bind (wpAny_setField ho hd (by simp) ?_)))
  show wpAny _ _ (newExc (.type "StopIteration") [] >>= _) _ _ _
  refine wpAny_bind ?_
  simp only [newExc, newTuple]
  refine wpAny_bind (wpAny_newObj_type ?_ (by size_fits))
  refine wpAny_bind (m := firstArgMember _ _) (wpAny_of_eq (a := Value.none) (by first | rfl | (simp only [firstArgMember]; rfl)) ?_)
  refine wpAny_newObj_type ?_ (by size_fits)
  simp only [raiseNew]
  refine wpAny_bind (wpAny_handled ?_)
  first | rw [show A.in1.handled = none from hh] | rw [hh]
  refine wpAny_bind (wpAny_pure (wpAny_throw ?_))
  exact hE _ _ (((Heap.SameBut.update ..).extBut.push _).push _) ⟨_, Heap.get?_push_size _ rfl, rfl⟩
end
theorem tupAt {h h' : Heap} {a : Addr} {items : Array Value} (x : h.IsTuple a items) (e : ∀ o, h.get? a = some o → h'.get? a = some o) : h'.IsTuple a items :=
  let ⟨o, ho, r⟩ := x; ⟨o, e _ ho, r⟩
theorem titAt {h h' : Heap} {a t : Addr} {i : Nat} (x : h.IsTupleIter a t i) (e : ∀ o, h.get? a = some o → h'.get? a = some o) : h'.IsTupleIter a t i :=
  let ⟨o, ho, r⟩ := x; ⟨o, e _ ho, r⟩
theorem drawsTuple {prog : Program} {w : World} {A : Around} (hh : A.handled = none) (it l : Addr) (hne : l ≠ it) (items : Array Value) :
    Draws prog w A it [it, l] items.size (fun i v => items[i]? = some v) (fun i h => h.IsTupleIter it l i ∧ h.IsTuple l items) where
  live := fun _ _ st => let ⟨o, ho, _⟩ := st.1; ⟨o, ho⟩
  frame := fun _ _ _ st hk => ⟨titAt st.1 fun o e => hk it (by simp) o e, tupAt st.2 fun o e => hk l (by simp) o e⟩
  item := fun i s Q E hi st hQ => by
    refine nextOf_tuple_item st.1 st.2 (x := items[i]) (by simp [hi]) fun h' hit' hs' => ?_
    exact hQ _ h' s.toks (by simp [hi]) ⟨hit', st.2.extBut hs'.extBut hne⟩ hs'
  done := fun s Q E st hE => nextOf_tuple_end hh st.1 st.2 (by simp) hE

theorem meets_enumT (l : Addr) (items : Array Value) (n : Nat) (dct : Option Addr) (sl : Array (Option Value)) :
    Meets (Builtin.«enumerate.__new__» ⟨[.type "enumerate", .ref l], []⟩) (fun _ R s => s.heap.get? l = some { cls := .type "tuple", dict := dct, data := .seq items n, slots := sl } ∧
      R (.ok (.ret (.ref (s.heap.push { cls := .type "tuple_iterator", data := .fields #[.ref l, .int 0 0] }).objs.size)))
        { s with heap := (s.heap.push { cls := .type "tuple_iterator", data := .fields #[.ref l, .int 0 0] }).push { cls := .type "enumerate", data := .fields #[.none, .bool false, .ref s.heap.objs.size, rawInt 0, .none, .none] } }) :=
  .of_wp fun prog w A R s h => by
    obtain ⟨hp, g, d, tk, os⟩ := s; obtain ⟨hl, h⟩ := h
    have hsub := sub_enumerate
    have hL : Heap.IsTuple (Shared.heap ⟨hp, g, d, tk, os⟩) l items := ⟨_, hl, rfl, n, rfl⟩
    wp_walk using wpAny_loadPart' hl
    refine wpAny_stack_any fun st => wpAny_pure ?_
    split
    · rename_i c _ _ _ _ _
      cases (c == Value.type "enumerate")
      · wp_walk using wpAny_loadPart' hl, wpAny_pyIter_tuple hL
        exact ⟨_, rfl, h⟩
      · wp_walk using wpAny_loadPart' hl, wpAny_pyIter_tuple hL
        exact ⟨_, rfl, h⟩
    · wp_walk using wpAny_loadPart' hl, wpAny_pyIter_tuple hL
      exact ⟨_, rfl, h⟩

theorem call_enumT {prog : Program} {w : World} {A : Around} {E : Value → Shared → Prop} {s : Shared} {l : Addr} {items : Array Value} {Q : Value → Shared → Prop} (hL : s.heap.IsTuple l items)
    (h : ∀ h', IsEnum h' (s.heap.objs.size + 1) s.heap.objs.size 0 .none → h'.IsTupleIter s.heap.objs.size l 0 → h'.objs.size = s.heap.objs.size + 2 →
      (∀ b o, s.heap.get? b = some o → h'.get? b = some o) → Q (.ref (s.heap.objs.size + 1)) { s with heap := h' }) :
    wpAny (model prog w) A (call (.type "enumerate") [.ref l]) Q E s := by
  obtain ⟨⟨c, dct, dt, sl⟩, hl, hc, n, hd⟩ := hL
  replace hc : c = .type "tuple" := hc
  replace hd : dt = .seq items n := hd
  subst hc hd
  refine callType_new F.called_enumerate (by decide) (F.typeCall_enumerate_1 _) (F.newCall_enumerate_1 _) (fun obj => F.args_object_init_2 obj _) F.entry_enumerate_new
    (meets_enumT l items n dct sl) ⟨hl, ?_⟩
  have hz : (s.heap.push { cls := .type "tuple_iterator", data := .fields #[.ref l, .int 0 0] }).objs.size = s.heap.objs.size + 1 := Heap.size_push ..
  show _ ∧ _
  rw [hz]
  have he : IsEnum ((s.heap.push { cls := .type "tuple_iterator", data := .fields #[.ref l, .int 0 0] }).push
      { cls := .type "enumerate", data := .fields #[.none, .bool false, .ref s.heap.objs.size, rawInt 0, .none, .none] }) (s.heap.objs.size + 1) s.heap.objs.size 0 .none := by
    have := Heap.get?_push_size (s.heap.push { cls := .type "tuple_iterator", data := .fields #[.ref l, .int 0 0] })
      (o := { cls := .type "enumerate", data := .fields #[.none, .bool false, .ref s.heap.objs.size, rawInt 0, .none, .none] }) rfl
    rw [hz] at this; exact this
  refine ⟨⟨_, he, rfl⟩, h _ he ⟨_, Heap.get?_push_of_some _ (Heap.get?_push_size _ rfl), rfl, rfl⟩ (by rw [Heap.size_push, hz]) fun b o x => Heap.get?_push_of_some _ (Heap.get?_push_of_some _ x)⟩
end Mine
-- Fm1
namespace Mine
/-- a turn's end: the one object at lp, the names; all else stands -/
def OneEnd (h₀ : Heap) (L lp : Addr) (rest : List (Addr × Obj)) (J : (Str → Option Value) → Obj → Prop) (s₁ s₂ : Shared) : Prop :=
  ∃ h' tk m' o', s₂ = { s₁ with heap := h', toks := tk } ∧ Fr h₀ L h' m' ∧ News h₀ L h' ((lp, o') :: rest) ∧ J m' o'
def OnePost (h₀ : Heap) (L lp : Addr) (rest : List (Addr × Obj)) (J : (Str → Option Value) → Obj → Prop) (s₁ : Shared) (Q : Flow → Shared → Prop) (f : Flow) (s₂ : Shared) : Prop :=
  match f with
  | .ret v => Q (.ret v) s₂
  | .brk => Q .next s₂
  | _ => OneEnd h₀ L lp rest J s₁ s₂
section
variable {prog : Program} {w : World} {A : Around} {E : Value → Shared → Prop} {s : Shared} {env : Env} {h₀ : Heap} {body orelse : List Stmt} {Q : Flow → Shared → Prop} {K : Frag}

theorem enumFor {elts : List Expr} {kk : Nat} {pos : Pos} {l lp : Addr} {lo o₀ : Obj} {vs : List Value} {n : Nat} {m₀ : Str → Option Value} {news : List (Addr × Obj)} (J : Nat → (Str → Option Value) → Obj → Prop)
    (hh : A.handled = none) (F : Fr h₀ env.locals s.heap m₀) (N : News h₀ env.locals s.heap ((lp, o₀) :: news)) (hlp : ∀ p ∈ news, p.1 ≠ lp) (X₀ : K.In h₀) (hk : K.lookup l = some lo) (hc : lo.cls = .type "tuple") (hd : lo.data = .seq vs.toArray n) (hJ : J 0 m₀ o₀)
    (turn : ∀ (i : Nat) (v : Value) (T : Addr) (t : Tok) (m₁ : Str → Option Value) (o₁ : Obj) (h : Heap) (tk : Nat) (rest : List (Addr × Obj)), vs[i]? = some v → J i m₁ o₁ → (∀ p ∈ news, p ∈ rest) → (∀ p ∈ rest, p.1 ≠ lp) → IsTup h T #[.int i t, v] → Fr h₀ env.locals h m₁ → News h₀ env.locals h ((lp, o₁) :: rest) →
      wpAny (model prog w) A (assign (.Tuple elts kk pos) env (.ref T)) (fun _ s₂ => wpAny (model prog w) A (execs body env) (OnePost h₀ env.locals lp rest (J (i + 1)) { s with heap := h, toks := tk } Q) E s₂) E { s with heap := h, toks := tk })
    (done : ∀ m₁ o₁ h tk, J vs.length m₁ o₁ → Fr h₀ env.locals h m₁ → News h₀ env.locals h ((lp, o₁) :: news) → Q .next { s with heap := h, toks := tk }) :
    wpAny (model prog w) A (call (.type "enumerate") [.ref l]) (fun xv s₁ => wpAny (model prog w) A (pyIter xv) (fun it s₂ => TurnsAt prog w A h₀ env (.Tuple elts kk pos) body Q E it s₂) E s₁) E s := by
  have hg : h₀.get? l = some lo := X₀ _ _ hk
  have hax : s.heap.get? l = some lo := F.keep _ _ hg
  have hl : s.heap.IsTuple l vs.toArray := ⟨lo, hax, hc, n, hd⟩
  have hlt : l < s.heap.objs.size := Heap.lt_size hax
  have hLs : env.locals < s.heap.objs.size := F.ns.lt
  refine call_enumT hl fun h' hE hI hsz hkp => ?_
  refine wpAny_pyIter_enum hE ?_
  have hne1 : s.heap.objs.size + 1 ≠ s.heap.objs.size := Nat.succ_ne_self _
  have hef : s.heap.objs.size + 1 ∉ [s.heap.objs.size, l] := by
    intro hm
    rcases List.mem_cons.mp hm with e | hm
    · exact hne1 e
    · have e := List.mem_singleton.mp hm
      exact ktu_ne 1 hlt e.symm
  have W := KTurns.ofWalksU (elts := elts) (k := kk) (pos := pos) (WalksT.enumerateD (drawsTuple (prog := prog) (w := w) (A := A.in1) hh s.heap.objs.size l (Nat.ne_of_lt hlt) vs.toArray) (s.heap.objs.size + 1) hne1 hef (List.mem_cons_self ..)).toU
  have hnwr : ∀ b ∈ [s.heap.objs.size + 1, s.heap.objs.size], h₀.get? b = none := by
    intro b hb
    rcases List.mem_cons.mp hb with rfl | hb
    · exact ktu_new F (Nat.le_add_right _ _)
    · rw [List.mem_singleton.mp hb]; exact ktu_new F (Nat.le_refl _)
  refine ⟨_, _, _, _, _, _, _, m₀, (lp, o₀) :: news, fun i m₁ news₁ => ∃ o₁, news₁ = (lp, o₁) :: news ∧ J i m₁ o₁, rfl, W, ?_, hnwr, ?_, ⟨⟨.none, hE⟩, hI, tupAt hl fun o e => hkp l o e⟩, F.keeps hkp, N.grown hkp, ⟨o₀, rfl, hJ⟩, ?_, ?_⟩
  · intro hI'
    have hb' : env.locals = s.heap.objs.size + 1 ∨ env.locals = s.heap.objs.size ∨ env.locals = l := by simpa using hI'
    rcases hb' with e | e | e
    · exact ktu_ne 1 hLs e
    · exact Nat.ne_of_lt hLs e
    · exact absurd (Heap.lt_size hg) (Nat.not_lt.mpr (e ▸ F.above))
  · intro p hp hI'
    have hb' : p.1 = s.heap.objs.size + 1 ∨ p.1 = s.heap.objs.size := by simpa using hI'
    have hlp' := Heap.lt_size (N p hp).1
    rcases hb' with e | e
    · exact ktu_ne 1 hlp' e
    · exact Nat.ne_of_lt hlp' e
  · rintro i v m₁ news₁ h₁ tk₁ own hin ⟨T, vals, rfl, ⟨t, x, hx, rfl⟩, hT⟩ ⟨o₁, rfl, hJ₁⟩ hoff hown hget hall hst F₁ N₁
    have hx' : vs[i]? = some x := by simpa using hx
    have hoff' : ∀ p ∈ own, p.1 ≠ lp := by
      intro p hp e
      have h1 := hown p hp
      have hb' : p.1 = s.heap.objs.size + 1 ∨ p.1 = s.heap.objs.size ∨ p.1 = l := by simpa using h1
      have h2 := hoff (lp, o₁) (List.mem_cons_self ..)
      rcases hb' with q | q | q
      · exact h2 (by rw [← e, q]; simp)
      · exact h2 (by rw [← e, q]; simp)
      · have h3 := (N₁ p (List.mem_append_left _ hp)).2.2
        rw [q, hg] at h3; cases h3
    refine wpAny_mono (turn i x T t m₁ o₁ h₁ tk₁ (own ++ news) hx' hJ₁ (fun p hp => List.mem_append_right _ hp) (fun p hp => (List.mem_append.mp hp).elim (hoff' p) (hlp p)) hT F₁ ?_) (fun _ s₂ h₂ => wpAny_mono h₂ (fun f s₃ p => ?_) fun _ _ e => e) fun _ _ e => e
    · intro p hp
      rcases List.mem_cons.mp hp with rfl | hp
      · exact N₁ _ (List.mem_append_right _ (List.mem_cons_self ..))
      · rcases List.mem_append.mp hp with hp | hp
        · exact N₁ _ (List.mem_append_left _ hp)
        · exact N₁ _ (List.mem_append_right _ (List.mem_cons_of_mem _ hp))
    · have fin : OneEnd h₀ env.locals lp (own ++ news) (J (i + 1)) { s with heap := h₁, toks := tk₁ } s₃ → LoopStepU h₀ env.locals [s.heap.objs.size + 1, s.heap.objs.size] own (fun m₁ news₁ => ∃ o₁, news₁ = (lp, o₁) :: news ∧ J (i + 1) m₁ o₁) { s with heap := h₁, toks := tk₁ } .next s₃ := by
        rintro ⟨h', tk, m', o', e, F', N', hj⟩
        refine ⟨rfl, h', tk, m', (lp, o') :: news, e, F', ?_, ?_, o', rfl, hj⟩
        · intro p hp
          rcases List.mem_append.mp hp with hp | hp
          · exact N' p (List.mem_cons_of_mem _ (List.mem_append_left _ hp))
          · rcases List.mem_cons.mp hp with rfl | hp
            · exact N' _ (List.mem_cons_self ..)
            · exact N' p (List.mem_cons_of_mem _ (List.mem_append_right _ hp))
        · intro p hp
          rcases List.mem_cons.mp hp with rfl | hp
          · exact hoff (lp, o₁) (List.mem_cons_self ..)
          · exact hoff p (List.mem_cons_of_mem _ hp)
      cases f with
      | ret v => exact p
      | brk => exact p
      | next => exact fin p
      | cont => exact fin p
  · rintro h' tk m' news' F' N' _ ⟨o₁, rfl, hJ₁⟩
    exact done m' o₁ h' tk (by simpa using hJ₁) F' N'

theorem forElse {target : Expr} {ax lp : Addr} {lo o₀ : Obj} {vs : List Value} {n : Nat} {m₀ : Str → Option Value} {news : List (Addr × Obj)} (J : Nat → (Str → Option Value) → Prop)
    (hh : A.handled = none) (F : Fr h₀ env.locals s.heap m₀) (N : News h₀ env.locals s.heap ((lp, o₀) :: news)) (hlp : ∀ p ∈ news, p.1 ≠ lp) (hax : h₀.get? ax = some lo) (hc : lo.cls = .type "tuple") (hd : lo.data = .seq vs.toArray n) (hJ : J 0 m₀)
    (hE : PassesOwn (model prog w) A env E)
    (turn : ∀ (i : Nat) (v : Value) (m₁ : Str → Option Value) (h : Heap) (tk : Nat) (rest : List (Addr × Obj)), vs[i]? = some v → J i m₁ → (∀ p ∈ news, p ∈ rest) → (∀ p ∈ rest, p.1 ≠ lp) → Fr h₀ env.locals h m₁ → News h₀ env.locals h ((lp, o₀) :: rest) →
      wpAny (model prog w) A (assign target env v) (fun _ s₂ => wpAny (model prog w) A (execs body env) (OnePost h₀ env.locals lp rest (fun m o => o = o₀ ∧ J (i + 1) m) { s with heap := h, toks := tk } Q) E s₂) E { s with heap := h, toks := tk })
    (done : ∀ m₁ h tk, J vs.length m₁ → Fr h₀ env.locals h m₁ → News h₀ env.locals h ((lp, o₀) :: news) → wpAny (model prog w) A (execs orelse env) Q E { s with heap := h, toks := tk }) :
    wpAny (model prog w) A (pyIter (.ref ax)) (fun it s₂ => codeAny (model prog w) A (.forLoop target it body orelse env) (fun r s' => match r with | .ok f => Q f s' | .error e => cameBackBy (model prog w) A env E e s') s₂) E s := by
  have hax' : s.heap.get? ax = some lo := F.keep _ _ hax
  have hl : s.heap.IsTuple ax vs.toArray := ⟨lo, hax', hc, n, hd⟩
  have hlt : ax < s.heap.objs.size := Heap.lt_size hax'
  have hLs : env.locals < s.heap.objs.size := F.ns.lt
  refine wpAny_pyIter_tuple hl ?_
  have hlI : ∀ p ∈ (lp, o₀) :: news, p.1 ≠ s.heap.objs.size := fun p hp => Nat.ne_of_lt (Heap.lt_size (N p hp).1)
  have hnI : h₀.get? s.heap.objs.size = none := next_is_new F
  refine codeAny_forLoop_any (fun k s' => ∃ h' tk m' i, s' = { s with heap := h', toks := tk } ∧ h'.IsTupleIter s.heap.objs.size ax i ∧ Fr h₀ env.locals h' m' ∧ News h₀ env.locals h' ((lp, o₀) :: news) ∧ J i m' ∧ i ≤ vs.length ∧ k = vs.length + 1 - i) ?_ (vs.length + 1)
    ⟨_, s.toks, m₀, 0, rfl, ⟨_, Heap.get?_push_size _ rfl, rfl, rfl⟩, F.push _, (fun p hp => ⟨Heap.get?_push_of_some _ (N p hp).1, (N p hp).2⟩), hJ, Nat.zero_le _, rfl⟩
  rintro k s' ⟨h', tk, m', i, rfl, hit, F', N', hj, hi, rfl⟩
  have hT' : h'.IsTuple ax vs.toArray := ⟨lo, F'.keep _ _ hax, hc, n, hd⟩
  have next : ∀ h₁ : Heap, Heap.ExtBut s.heap.objs.size h' h₁ → Fr h₀ env.locals h₁ m' ∧ News h₀ env.locals h₁ ((lp, o₀) :: news) := fun h₁ hk₁ =>
    ⟨⟨F'.ns.at' fun o e => hk₁ _ o (Nat.ne_of_lt hLs) e, fun b o e => hk₁ b o (fun q => by rw [q, hnI] at e; cases e) (F'.keep b o e), F'.above⟩, fun p hp => ⟨hk₁ _ _ (hlI p hp) (N' p hp).1, (N' p hp).2⟩⟩
  by_cases hlt' : i < vs.length
  · refine wpAny_pyNext_tuple_item (x := vs[i]) hit hT' (by simp [hlt']) fun h₁ hit₁ hs₁ => ?_
    refine letGo_tupleiter hit₁ ?_
    obtain ⟨F₁, N₁⟩ := next h₁ hs₁.extBut
    obtain ⟨oi, hoi, hoc, hod⟩ := id hit₁
    have hLI : s.heap.objs.size ≠ env.locals := Nat.ne_of_gt hLs
    refine wpAny_mono (turn i vs[i] m' h₁ tk ((s.heap.objs.size, oi) :: news) (by simp [hlt']) hj (fun p hp => List.mem_cons_of_mem _ hp) (fun p hp => ?_) F₁ ?_) (fun _ s₂ h₂ => wpAny_mono (wpAny_passesOwn hE h₂) (fun f s₃ p => ?_) fun _ _ e => e) hE
    · rcases List.mem_cons.mp hp with rfl | hp
      · exact (hlI (lp, o₀) (List.mem_cons_self ..)).symm
      · exact hlp p hp
    · intro p hp
      rcases List.mem_cons.mp hp with rfl | hp
      · exact N₁ _ (List.mem_cons_self ..)
      · rcases List.mem_cons.mp hp with rfl | hp
        · exact ⟨hoi, hLI, hnI⟩
        · exact N₁ p (List.mem_cons_of_mem _ hp)
    · have fin : OneEnd h₀ env.locals lp ((s.heap.objs.size, oi) :: news) (fun m o => o = o₀ ∧ J (i + 1) m) { s with heap := h₁, toks := tk } s₃ →
          ∃ m, m < vs.length + 1 - i ∧ ∃ h' tk m' i, s₃ = { s with heap := h', toks := tk } ∧ h'.IsTupleIter s.heap.objs.size ax i ∧ Fr h₀ env.locals h' m' ∧ News h₀ env.locals h' ((lp, o₀) :: news) ∧ J i m' ∧ i ≤ vs.length ∧ m = vs.length + 1 - i := by
        rintro ⟨hq, tk₂, m₂, o₂, e, F₂, N₂, ho₂, hj₂⟩
        rw [ho₂] at N₂
        refine ⟨vs.length + 1 - (i + 1), by omega, hq, tk₂, m₂, i + 1, e, ⟨oi, (N₂ _ (List.mem_cons_of_mem _ (List.mem_cons_self ..))).1, hoc, hod⟩, F₂, ?_, hj₂, hlt', rfl⟩
        intro p hp
        rcases List.mem_cons.mp hp with rfl | hp
        · exact N₂ _ (List.mem_cons_self ..)
        · exact N₂ p (List.mem_cons_of_mem _ (List.mem_cons_of_mem _ hp))
      cases f with
      | ret v => exact p
      | brk => exact p
      | next => exact fin p
      | cont => exact fin p
  · have hin : i = vs.length := by omega
    subst hin
    refine wpAny_pyNext_tuple_end hh hit hT' (by simp) fun h₁ hs₁ => ?_
    obtain ⟨F₁, N₁⟩ := next h₁ hs₁
    exact wpAny_mono (wpAny_passesOwn hE (done m' h₁ tk hj F₁ N₁)) (fun _ _ e => e) fun _ _ e => e
end
end Mine
-- Fm2
namespace Mine
def cond (idx v b : Int) : Bool := if idx = 0 then decide (Builtin.bitAnd v 61440 = b) else decide (Builtin.bitAnd v b = b)
def pick (idx v : Int) : List (Int × Str) → Str
  | [] => if idx = 0 then Str.ofString "?" else Str.ofString "-"
  | p :: r => if cond idx v p.1 then p.2 else pick idx v r
def fmRows : List (List (Int × Str)) := [
  [(40960, Str.ofString "l"), (49152, Str.ofString "s"), (32768, Str.ofString "-"), (24576, Str.ofString "b"), (16384, Str.ofString "d"), (8192, Str.ofString "c"), (4096, Str.ofString "p")],
  [(256, Str.ofString "r")], [(128, Str.ofString "w")], [(2112, Str.ofString "s"), (2048, Str.ofString "S"), (64, Str.ofString "x")],
  [(32, Str.ofString "r")], [(16, Str.ofString "w")], [(1032, Str.ofString "s"), (1024, Str.ofString "S"), (8, Str.ofString "x")],
  [(4, Str.ofString "r")], [(2, Str.ofString "w")], [(513, Str.ofString "t"), (512, Str.ofString "T"), (1, Str.ofString "x")]]
def picksTo (v : Int) (n : Nat) : List Str := (List.range n).map fun (j : Nat) => pick j v (fmRows.getD j [])
def PairsOk (K : Frag) : List Value → List (Int × Str) → Prop
  | [], [] => True
  | v :: r, p :: q => (∃ a lo n tb tc, v = .ref a ∧ K.lookup a = some lo ∧ lo.cls = .type "tuple" ∧ lo.data = .seq #[.int p.1 tb, .str p.2 tc] n) ∧ PairsOk K r q
  | _, _ => False
def RowsOk (K : Frag) : List Value → List (List (Int × Str)) → Prop
  | [], [] => True
  | v :: r, p :: q => (∃ a lo n items, v = .ref a ∧ K.lookup a = some lo ∧ lo.cls = .type "tuple" ∧ lo.data = .seq (List.toArray items) n ∧ PairsOk K items p) ∧ RowsOk K r q
  | _, _ => False
theorem PairsOk.at {K : Frag} : ∀ {vs : List Value} {ps : List (Int × Str)} {i : Nat} {v : Value}, PairsOk K vs ps → vs[i]? = some v →
    ∃ a lo n tb tc b c, v = .ref a ∧ K.lookup a = some lo ∧ lo.cls = .type "tuple" ∧ lo.data = .seq #[.int b tb, .str c tc] n ∧ ps.drop i = (b, c) :: ps.drop (i + 1)
  | [], _, i, v, _, e => by simp at e
  | _ :: _, [], i, v, h, e => h.elim
  | x :: r, p :: q, 0, v, h, e => by
    obtain ⟨⟨a, lo, n, tb, tc, h1, h2, h3, h4⟩, _⟩ := h
    simp at e
    exact ⟨a, lo, n, tb, tc, p.1, p.2, e ▸ h1, h2, h3, h4, by simp⟩
  | x :: r, p :: q, i + 1, v, h, e => by
    obtain ⟨a, lo, n, tb, tc, b, c, h1, h2, h3, h4, h5⟩ := PairsOk.at (i := i) (v := v) h.2 (by simpa using e)
    exact ⟨a, lo, n, tb, tc, b, c, h1, h2, h3, h4, by simpa using h5⟩
theorem PairsOk.len {K : Frag} : ∀ {vs : List Value} {ps : List (Int × Str)}, PairsOk K vs ps → vs.length = ps.length
  | [], [], _ => rfl
  | [], _ :: _, h => h.elim
  | _ :: _, [], h => h.elim
  | _ :: _, _ :: _, h => by simp [PairsOk.len h.2]
theorem RowsOk.at {K : Frag} : ∀ {vs : List Value} {ps : List (List (Int × Str))} {i : Nat} {v : Value}, RowsOk K vs ps → vs[i]? = some v →
    ∃ a lo n items, v = .ref a ∧ K.lookup a = some lo ∧ lo.cls = .type "tuple" ∧ lo.data = .seq (List.toArray items) n ∧ PairsOk K items (ps.getD i [])
  | [], _, i, v, _, e => by simp at e
  | _ :: _, [], i, v, h, e => h.elim
  | x :: r, p :: q, 0, v, h, e => by
    obtain ⟨⟨a, lo, n, items, h1, h2, h3, h4, h5⟩, _⟩ := h
    simp at e
    exact ⟨a, lo, n, items, e ▸ h1, h2, h3, h4, by simpa using h5⟩
  | x :: r, p :: q, i + 1, v, h, e => by
    obtain ⟨a, lo, n, items, h1, h2, h3, h4, h5⟩ := RowsOk.at (i := i) (v := v) h.2 (by simpa using e)
    exact ⟨a, lo, n, items, h1, h2, h3, h4, by simpa using h5⟩
theorem StrsAre_snoc {vs : List Value} {ys : List Str} (h : StrsAre vs ys) (y : Str) (t : Tok) : StrsAre (vs ++ [.str y t]) (ys ++ [y]) := by
  induction h with
  | nil => exact .cons y t .nil
  | cons z u _ ih => exact .cons z u ih
theorem fm_table (p : Params) : ∃ lo vs n, (hd.heap_39 p).lookup 61 = some lo ∧ lo.cls = .type "tuple" ∧ lo.data = .seq (List.toArray vs) n ∧ vs.length = 10 ∧ RowsOk (hd.heap_39 p) vs fmRows := by
  refine ⟨_, _, _, rfl, rfl, rfl, rfl, ?_⟩
  refine ⟨⟨_, _, _, _, rfl, rfl, rfl, rfl, ?_⟩, ⟨_, _, _, _, rfl, rfl, rfl, rfl, ?_⟩, ⟨_, _, _, _, rfl, rfl, rfl, rfl, ?_⟩, ⟨_, _, _, _, rfl, rfl, rfl, rfl, ?_⟩, ⟨_, _, _, _, rfl, rfl, rfl, rfl, ?_⟩, ⟨_, _, _, _, rfl, rfl, rfl, rfl, ?_⟩, ⟨_, _, _, _, rfl, rfl, rfl, rfl, ?_⟩, ⟨_, _, _, _, rfl, rfl, rfl, rfl, ?_⟩, ⟨_, _, _, _, rfl, rfl, rfl, rfl, ?_⟩, ⟨_, _, _, _, rfl, rfl, rfl, rfl, ?_⟩, trivial⟩
  · exact ⟨⟨_, _, _, _, _, rfl, rfl, rfl, rfl⟩, ⟨_, _, _, _, _, rfl, rfl, rfl, rfl⟩, ⟨_, _, _, _, _, rfl, rfl, rfl, rfl⟩, ⟨_, _, _, _, _, rfl, rfl, rfl, rfl⟩, ⟨_, _, _, _, _, rfl, rfl, rfl, rfl⟩, ⟨_, _, _, _, _, rfl, rfl, rfl, rfl⟩, ⟨_, _, _, _, _, rfl, rfl, rfl, rfl⟩, trivial⟩
  · exact ⟨⟨_, _, _, _, _, rfl, rfl, rfl, rfl⟩, trivial⟩
  · exact ⟨⟨_, _, _, _, _, rfl, rfl, rfl, rfl⟩, trivial⟩
  · exact ⟨⟨_, _, _, _, _, rfl, rfl, rfl, rfl⟩, ⟨_, _, _, _, _, rfl, rfl, rfl, rfl⟩, ⟨_, _, _, _, _, rfl, rfl, rfl, rfl⟩, trivial⟩
  · exact ⟨⟨_, _, _, _, _, rfl, rfl, rfl, rfl⟩, trivial⟩
  · exact ⟨⟨_, _, _, _, _, rfl, rfl, rfl, rfl⟩, trivial⟩
  · exact ⟨⟨_, _, _, _, _, rfl, rfl, rfl, rfl⟩, ⟨_, _, _, _, _, rfl, rfl, rfl, rfl⟩, ⟨_, _, _, _, _, rfl, rfl, rfl, rfl⟩, trivial⟩
  · exact ⟨⟨_, _, _, _, _, rfl, rfl, rfl, rfl⟩, trivial⟩
  · exact ⟨⟨_, _, _, _, _, rfl, rfl, rfl, rfl⟩, trivial⟩
  · exact ⟨⟨_, _, _, _, _, rfl, rfl, rfl, rfl⟩, ⟨_, _, _, _, _, rfl, rfl, rfl, rfl⟩, ⟨_, _, _, _, _, rfl, rfl, rfl, rfl⟩, trivial⟩
end Mine
-- Fm3
namespace Mine
/-- what a call of a def of the text's gives back, whatever stands around it: the frame and the ledger stand -/
abbrev Cl (w : World) (mean : ExcName → Option Value) (mg mb : Str → Option Value) (f : Addr) (news : List (Addr × Obj)) (vs : List Value) (R : Tok → Value) : Prop :=
  ∀ (dp un : Nat) (gd : Option (List Code)) (cn : Str) (cs : Scope) (a : Addr) (ccd : Value) (cl : List (Str × Addr)) (outer : List Env) (A₀ : Around) (base h₀ : Heap) (L : Addr) (m : Str → Option Value) (s : Shared) (Q E : Value → Shared → Prop),
    Below A₀ base outer h₀ → Fr h₀ L s.heap m → (hd.heap_39 w.params).In h₀ → News h₀ L s.heap news → Top hd.view_39 (looseW hd.view_39 [Str.ofString "_filemode_table"]) mean mg mb h₀ → cs.kind = .function → dp + 8 < recursionLimit → un + 40 < cLine →
    (∀ (t : Tok) (h' : Heap) (tk' : Nat), Fr h₀ L h' m → News h₀ L h' news → Q (R t) { s with heap := h', toks := tk' }) →
      wpAny (model PySem.Challenge.rw_om0006_01.row.prog w) (ktrTop dp un gd cn cs L a ccd cl outer) (call (.ref f) vs) Q E s
theorem OneEnd.mk {h₀ h' : Heap} {L lp : Addr} {rest rest' : List (Addr × Obj)} {J : (Str → Option Value) → Obj → Prop} {s₁ : Shared} {tk : Nat} {m' : Str → Option Value} {o' : Obj}
    (F : Fr h₀ L h' m') (N : News h₀ L h' ((lp, o') :: rest')) (hs : ∀ p ∈ rest, p ∈ rest') (hj : J m' o') : OneEnd h₀ L lp rest J s₁ { s₁ with heap := h', toks := tk } :=
  ⟨h', tk, m', o', rfl, F, fun p hp => (List.mem_cons.mp hp).elim (fun e => N p (e ▸ List.mem_cons_self ..)) (fun e => N p (List.mem_cons_of_mem _ (hs p e))), hj⟩
section
variable {m m₂ m₃ : Str → Option Value} {A B P M I : Option Value}
theorem names3 (hp : m (Str.ofString "perm") = P) (hm : m (Str.ofString "mode") = M) (h3 : ∀ z, z ≠ Str.ofString "bit" → z ≠ Str.ofString "char" → m₃ z = m₂ z)
    (h2 : ∀ z, z ≠ Str.ofString "index" → z ≠ Str.ofString "table" → z ≠ Str.ofString "bit" → z ≠ Str.ofString "char" → m₂ z = m z) :
    ∀ z, z ≠ Str.ofString "index" → z ≠ Str.ofString "table" → z ≠ Str.ofString "bit" → z ≠ Str.ofString "char" →
      (if z = Str.ofString "perm" then P else if z = Str.ofString "mode" then M else if z = Str.ofString "index" then I else m₃ z) = m z := by
  intro z a b c d
  split
  · rename_i e; rw [e, hp]
  · split
    · rename_i e; rw [e, hm]
    · first | rw [h3 z c d, h2 z a b c d] | rw [if_neg a, h3 z c d, h2 z a b c d]
theorem names5 (hp : m (Str.ofString "perm") = P) (hm : m (Str.ofString "mode") = M) (h3 : ∀ z, z ≠ Str.ofString "bit" → z ≠ Str.ofString "char" → m₃ z = m₂ z)
    (h2 : ∀ z, z ≠ Str.ofString "index" → z ≠ Str.ofString "table" → z ≠ Str.ofString "bit" → z ≠ Str.ofString "char" → m₂ z = m z) :
    ∀ z, z ≠ Str.ofString "index" → z ≠ Str.ofString "table" → z ≠ Str.ofString "bit" → z ≠ Str.ofString "char" →
      (if z = Str.ofString "char" then A else if z = Str.ofString "bit" then B else if z = Str.ofString "perm" then P else if z = Str.ofString "mode" then M else if z = Str.ofString "index" then I else m₃ z) = m z := by
  intro z a b c d
  rw [if_neg d, if_neg c]
  exact names3 hp hm h3 h2 z a b c d
theorem namesN (hp : m₂ (Str.ofString "perm") = P) (hm : m₂ (Str.ofString "mode") = M) (hi : m₂ (Str.ofString "index") = I) (h3 : ∀ z, z ≠ Str.ofString "bit" → z ≠ Str.ofString "char" → m₃ z = m₂ z) :
    ∀ z, z ≠ Str.ofString "bit" → z ≠ Str.ofString "char" →
      (if z = Str.ofString "char" then A else if z = Str.ofString "bit" then B else if z = Str.ofString "perm" then P else if z = Str.ofString "mode" then M else if z = Str.ofString "index" then I else m₃ z) = m₂ z := by
  intro z c d
  rw [if_neg d, if_neg c]
  split
  · rename_i e; rw [e, hp]
  · split
    · rename_i e; rw [e, hm]
    · split
      · rename_i e; rw [e, hi]
      · exact h3 z c d
end
theorem StrsAre_len {vs : List Value} {ys : List Str} (h : StrsAre vs ys) : vs.length = ys.length := by
  induction h with
  | nil => rfl
  | cons _ _ _ ih => simp [ih]
theorem picksTo_snoc {xs : Array Value} {v : Int} {i : Nat} {c : Str} {tc : Tok} (h : StrsAre xs.toList (picksTo v i)) (hc : pick i v (fmRows.getD i []) = c) : StrsAre (xs.push (.str c tc)).toList (picksTo v (i + 1)) := by
  have e : picksTo v (i + 1) = picksTo v i ++ [c] := by
    unfold picksTo
    rw [List.range_succ, List.map_append, ← hc]
    rfl
  rw [e, Array.toList_push]
  exact StrsAre_snoc h c tc
theorem pick_len {idx v : Int} : ∀ {l : List (Int × Str)}, (∀ p ∈ l, p.2.length = 1) → (pick idx v l).length = 1
  | [], _ => by unfold pick; split <;> decide
  | p :: r, h => by
    unfold pick
    split
    · exact h p (List.mem_cons_self ..)
    · exact pick_len fun q hq => h q (List.mem_cons_of_mem _ hq)
theorem fm_len : ∀ j, j < 10 → ∀ p ∈ fmRows.getD j [], p.2.length = 1 := by decide
theorem picksTo_len (v : Int) (n : Nat) : (picksTo v n).length = n := by simp [picksTo]
theorem picksTo_sum (v : Int) : ∀ n, n ≤ 10 → ((picksTo v n).map (·.length)).sum = n
  | 0, _ => rfl
  | n + 1, h => by
    have e : picksTo v (n + 1) = picksTo v n ++ [pick n v (fmRows.getD n [])] := by
      unfold picksTo
      rw [List.range_succ, List.map_append]
      rfl
    rw [e, List.map_append, List.sum_append, picksTo_sum v n (by omega)]
    have q := pick_len (idx := n) (v := v) (fm_len n (by omega))
    simp only [List.map_cons, List.map_nil, List.sum_cons, List.sum_nil, q, Nat.add_zero]
theorem picksTo_weight (v : Int) : ((picksTo v 10).map (·.length)).sum + (picksTo v 10).length ≤ 1048576 := by
  rw [picksTo_sum v 10 (Nat.le_refl _), picksTo_len]; decide
theorem cond_0 {idx v b : Int} (h : idx = 0) (q : Builtin.bitAnd v 61440 = b) : cond idx v b = true := by unfold cond; rw [if_pos h]; exact decide_eq_true q
theorem cond_0n {idx v b : Int} (h : idx = 0) (q : Builtin.bitAnd v 61440 ≠ b) : cond idx v b = false := by unfold cond; rw [if_pos h]; exact decide_eq_false q
theorem cond_1 {idx v b : Int} (h : idx ≠ 0) (q : Builtin.bitAnd v b = b) : cond idx v b = true := by unfold cond; rw [if_neg h]; exact decide_eq_true q
theorem cond_1n {idx v b : Int} (h : idx ≠ 0) (q : Builtin.bitAnd v b ≠ b) : cond idx v b = false := by unfold cond; rw [if_neg h]; exact decide_eq_false q
theorem pick_yes {idx v b : Int} {c : Str} {l r q : List (Int × Str)} (hd : l = (b, c) :: r) (h : cond idx v b = true) (e : pick idx v l = pick idx v q) : pick idx v q = c := by
  rw [← e, hd]; simp [pick, h]
theorem pick_no {idx v b : Int} {c : Str} {l r q : List (Int × Str)} (hd : l = (b, c) :: r) (h : cond idx v b = false) (e : pick idx v l = pick idx v q) : pick idx v r = pick idx v q := by
  rw [← e, hd]; simp [pick, h]
theorem pick_end {idx v : Int} {n : Nat} {q : List (Int × Str)} (hn : n = q.length) (e : pick idx v (q.drop n) = pick idx v q) : pick idx v q = if idx = 0 then Str.ofString "?" else Str.ofString "-" := by
  rw [← e, hn, List.drop_length]; rfl
local macro_rules | `(tactic| walk_at "exec For Tuple Call") => `(tactic| (k_here; (rename Fr _ _ _ _ => lF'); (with_unfolding_all refine' For_turns lF' ?_; k_whole)))
local macro_rules | `(tactic| walk_at "OnePost") => `(tactic| (dsimp only [OnePost]))
local macro_rules | `(tactic| walk_at "call ref") => `(tactic| (k_here; (with_reducible show wpAny _ _ (call (Value.ref 28) _) _ _ _); (have hCb := @c_ifmt); (dsimp only [CbClaim, CbLists, CbRet] at hCb); (refine' hCb _ _ _ _ _ _ _ _ _ _ _ _ _ _ _ _ _ _ _ _ _ _ _ _ ?k1 ?k2 ?k3 ?k4 ?k5 ?kK trivial ?kd ?ku ?kR); (case k1 => k_asm); (case k2 => k_asm); (case k3 => k_asm); (case k4 => k_asm); (case k5 => k_asm); (case kK => first | exact rfl | assumption); (case kd => ktr_room); (case ku => ktr_units); (clear hCb); (intro t9 h9 tk9 F9 N9); (try dsimp only); (try k_fold)))
local macro_rules | `(tactic| walk_at "call builtin:list.append") => `(tactic| (k_here; (refine' append_K ?k1 ?k2 (Upd.head ?k3) ?_ ?z; (case k1 => k_asm); (case k2 => k_asm); (case k3 => assumption); (case z => assumption); k_whole); intro h' F' N'))
theorem c_fm (w : World) (mean : ExcName → Option Value) (mg mb : Str → Option Value) (news : List (Addr × Obj)) (v : Int) (t : Tok) :
    Cl w mean mg mb 68 news [.int v t] (fun t => .str (Txt.join (Str.ofString "") (picksTo v 10)) t) := by
  dsimp only [Cl]
  k_fill
  intros; rename_i hret
  refine wpAny_call ?_
  k_dflt cell_enter
  repeat' ((fail_if_success (with_reducible show wpAny _ _ (call (Value.type _) _) _ _ _)); first | (k_unfold; (try dsimp only)) | (k_end; kc_close) | walk1 | (dsimp only; walk1) | (leave1; walk_say "STEP leave1"; (try dsimp only)) | fail "no step")
  (with_reducible rename Fr _ _ _ _ => F)
  (with_reducible rename News _ _ _ _ => N)
  (with_reducible rename Frag.In _ _ => KX)
  have hF := Exists.intro (p := fun m : Str → Option Value => Fr _ _ _ m ∧ m (Str.ofString "mode") = some (.int v t) ∧ m (Str.ofString "perm") = some (.ref _)) _ ⟨F, rfl, rfl⟩
  obtain ⟨m, F, hmm, hmp⟩ := hF
  obtain ⟨lo, vs, n, hk, hc, hdt, hlen, hrows⟩ := fm_table w.params
  refine enumFor (fun i m' o => (∀ z, z ≠ Str.ofString "index" → z ≠ Str.ofString "table" → z ≠ Str.ofString "bit" → z ≠ Str.ofString "char" → m' z = m z) ∧ ∃ xs : Array Value, o = W.listOf xs i ∧ StrsAre xs.toList (picksTo v i)) ?h1 F N ?h2 KX hk hc hdt ?h5 ?turn ?done
  case h1 => rfl
  case h2 => intro p hp; exact Nat.ne_of_lt (by apply_assumption; exact hp)
  case h5 => exact ⟨fun _ _ _ _ _ => rfl, #[], rfl, .nil⟩
  case turn =>
    intro i x T tt m₁ o₁ h tk rest hx hJ hsub hne hT F₁ N₁
    obtain ⟨hm₁, xs, rfl, hxs⟩ := hJ
    obtain ⟨ax, lo2, n2, items, rfl, hk2, hc2, hd2, hps⟩ := hrows.at hx
    have hxz : xs.size ≤ sizeLine := by
      have h1 : xs.toList.length = i := by rw [StrsAre_len hxs]; simp [picksTo]
      have h2 : i < vs.length := by
        rcases Nat.lt_or_ge i vs.length with h | h
        · exact h
        · rw [List.getElem?_eq_none h] at hx; cases hx
      rw [sizeLine_eq]
      simp at h1
      omega
    have e1 : m₁ = fun y => if y = Str.ofString "perm" then m (Str.ofString "perm") else if y = Str.ofString "mode" then m (Str.ofString "mode") else m₁ y := by
      funext y
      split
      · rename_i hy; subst hy; exact hm₁ _ (by decide) (by decide) (by decide) (by decide)
      · split
        · rename_i hy; subst hy; exact hm₁ _ (by decide) (by decide) (by decide) (by decide)
        · rfl
    rw [e1, hmm, hmp] at F₁
    clear F N
    dsimp only [envOf] at F₁ N₁
    repeat' ((fail_if_success (with_reducible show wpAny _ _ (exec (Stmt.For _ _ _ _ _) _) _ _ _)); first | (k_unfold; (try dsimp only)) | (k_end; kc_close) | walk1 | (dsimp only; walk1) | (leave1; walk_say "STEP leave1"; (try dsimp only)) | fail "no step")
    refine wpAny_For ?_
    repeat' ((fail_if_success (with_reducible show wpAny _ _ (pyIter _) _ _ _)); first | (k_unfold; (try dsimp only)) | walk1 | (dsimp only; walk1) | fail "no step")
    (with_reducible rename Fr _ _ _ _ => F)
    (with_reducible rename News _ _ _ _ => N)
    have hF := Exists.intro (p := fun m' : Str → Option Value => Fr _ _ _ m' ∧ m' (Str.ofString "mode") = some (.int v t) ∧ m' (Str.ofString "perm") = some (.ref _) ∧ m' (Str.ofString "index") = some (.int i tt) ∧ ∀ z, z ≠ Str.ofString "index" → z ≠ Str.ofString "table" → z ≠ Str.ofString "bit" → z ≠ Str.ofString "char" → m' z = m z) _ ⟨F, rfl, rfl, rfl, by
      intro z h1 h2 h3 h4
      rw [if_neg h2, if_neg h1]
      split
      · rename_i hz; rw [hz, hmp]
      · split
        · rename_i hz; rw [hz, hmm]
        · exact hm₁ z h1 h2 h3 h4⟩
    clear F
    obtain ⟨m₂, F, hm2, hp2, hi2, hall2⟩ := hF
    refine forElse (fun j m' => (∀ z, z ≠ Str.ofString "bit" → z ≠ Str.ofString "char" → m' z = m₂ z) ∧ pick i v ((fmRows.getD i []).drop j) = pick i v (fmRows.getD i [])) ?g1 F N hne (KX _ _ hk2) hc2 hd2 ?g2 ?g3 ?turn2 ?done2
    case g1 => rfl
    case g2 => exact ⟨fun _ _ _ => rfl, rfl⟩
    case g3 => passes_own
    case turn2 =>
      intro j y m₃ h₃ tk₃ rest₃ hy hJ₃ hsub₃ hne₃ F₃ N₃
      obtain ⟨hm₃, hpk⟩ := hJ₃
      obtain ⟨a, lo3, n3, tb, tc, b, c, rfl, hk3, hc3, hd3, hdrop⟩ := hps.at hy
      have e1 : m₃ = fun y => if y = Str.ofString "perm" then m₂ (Str.ofString "perm") else if y = Str.ofString "mode" then m₂ (Str.ofString "mode") else if y = Str.ofString "index" then m₂ (Str.ofString "index") else m₃ y := by
        funext y
        split
        · rename_i hy; subst hy; exact hm₃ _ (by decide) (by decide)
        · split
          · rename_i hy; subst hy; exact hm₃ _ (by decide) (by decide)
          · split
            · rename_i hy; subst hy; exact hm₃ _ (by decide) (by decide)
            · rfl
      rw [e1, hm2, hp2, hi2] at F₃
      clear F N
      dsimp only [envOf] at F₃ N₃
      refine unpackK F₃ N₃ KX hk3 hc3 hd3 rfl rfl rfl ?_
      intro h₄ F₄ N₄
      clear F₃ N₃
      dsimp only
      k_steps
      · exact OneEnd.mk (by assumption) (by assumption) (fun p hp => hsub₃ p hp) ⟨names5 hmp hmm hm₃ hall2, _, rfl, picksTo_snoc hxs (pick_yes hdrop (cond_0 (by assumption) (by assumption)) hpk)⟩
      · exact OneEnd.mk (by assumption) (by assumption) (fun p hp => hp) ⟨rfl, namesN hp2 hm2 hi2 hm₃, pick_no hdrop (cond_0n (by assumption) (by assumption)) hpk⟩
      · exact OneEnd.mk (by assumption) (by assumption) (fun p hp => hsub₃ p hp) ⟨names5 hmp hmm hm₃ hall2, _, rfl, picksTo_snoc hxs (pick_yes hdrop (cond_1 (by assumption) (by assumption)) hpk)⟩
      · exact OneEnd.mk (by assumption) (by assumption) (fun p hp => hp) ⟨rfl, namesN hp2 hm2 hi2 hm₃, pick_no hdrop (cond_1n (by assumption) (by assumption)) hpk⟩
    case done2 =>
      intro m₃ h₃ tk₃ hJ₃ F₃ N₃
      obtain ⟨hm₃, hpk⟩ := hJ₃
      have e1 : m₃ = fun y => if y = Str.ofString "perm" then m₂ (Str.ofString "perm") else if y = Str.ofString "mode" then m₂ (Str.ofString "mode") else if y = Str.ofString "index" then m₂ (Str.ofString "index") else m₃ y := by
        funext y
        split
        · rename_i hy; subst hy; exact hm₃ _ (by decide) (by decide)
        · split
          · rename_i hy; subst hy; exact hm₃ _ (by decide) (by decide)
          · split
            · rename_i hy; subst hy; exact hm₃ _ (by decide) (by decide)
            · rfl
      rw [e1, hm2, hp2, hi2] at F₃
      clear F N
      dsimp only [envOf] at F₃ N₃
      k_steps
      · exact OneEnd.mk (by assumption) (by assumption) (fun p hp => hp) ⟨names3 hmp hmm hm₃ hall2, _, rfl, picksTo_snoc hxs ((pick_end hps.len hpk).trans (if_pos (by assumption)))⟩
      · exact OneEnd.mk (by assumption) (by assumption) (fun p hp => hp) ⟨names3 hmp hmm hm₃ hall2, _, rfl, picksTo_snoc hxs ((pick_end hps.len hpk).trans (if_neg (by assumption)))⟩
  case done =>
    intro m₁ o₁ h tk hJ F₁ N₁
    obtain ⟨hm₁, xs, rfl, hxs⟩ := hJ
    rw [hlen] at hxs N₁
    have e1 : m₁ = fun y => if y = Str.ofString "perm" then m (Str.ofString "perm") else m₁ y := by
      funext y
      split
      · rename_i hy; subst hy; exact hm₁ _ (by decide) (by decide) (by decide) (by decide)
      · rfl
    rw [e1, hmp] at F₁
    clear F N
    dsimp only [envOf] at F₁ N₁
    k_steps
    refine join_listW (News.isList N₁ (List.mem_cons_self ..)) hxs (by decide) (picksTo_weight v) ?_
    intro t' k
    k_steps
    exact hret _ _ _ (by k_asm) (by first | k_asm | (refine' cb_drop ?cbN ?cbS; (case cbN => assumption); (case cbS => kcj_all)))
end Mine
-- Tb0
namespace Mine
/-- the same for a def that gives back a new list -/
abbrev ClL (w : World) (mean : ExcName → Option Value) (mg mb : Str → Option Value) (f : Addr) (news : List (Addr × Obj)) (vs : List Value) (R : List Value → Prop) : Prop :=
  ∀ (dp un : Nat) (gd : Option (List Code)) (cn : Str) (cs : Scope) (a : Addr) (ccd : Value) (cl : List (Str × Addr)) (outer : List Env) (A₀ : Around) (base h₀ : Heap) (L : Addr) (m : Str → Option Value) (s : Shared) (Q E : Value → Shared → Prop),
    Below A₀ base outer h₀ → Fr h₀ L s.heap m → (hd.heap_39 w.params).In h₀ → News h₀ L s.heap news → Top hd.view_39 (looseW hd.view_39 [Str.ofString "_filemode_table"]) mean mg mb h₀ → cs.kind = .function → dp + 8 < recursionLimit → un + 40 < cLine →
    (∀ (l : Addr) (xs : List Value) (h' : Heap) (tk' : Nat), R xs → Fr h₀ L h' m → News h₀ L h' ((l, LCg.lst xs) :: news) → (∀ p ∈ news, p.1 ≠ l) → Q (.ref l) { s with heap := h', toks := tk' }) →
      wpAny (model PySem.Challenge.rw_om0006_01.row.prog w) (ktrTop dp un gd cn cs L a ccd cl outer) (call (.ref f) vs) Q E s
theorem compAll {prog : Program} {w : World} {A : Around} {h₀ : Heap} {L : Addr} {m : Str → Option Value} {env : Env} {elt : Expr} {x : Str} {scope : Scope} {cl : List (Str × Addr)} {s : Shared} {S : List (Addr × Obj) → Prop} {P : Nat → Value → Prop} {Fin : List Value → List (Addr × Obj) → Prop} {news : List (Addr × Obj)} {n : Nat} (R : Nat → Value → Prop)
    (turn : ∀ (i : Nat) (v : Value) (I : Addr) (oI : Obj) (C : Addr) (oC : Obj) (D : Addr) (m₂ : Str → Option Value) (ys : List Value) (h : Heap) (tk : Nat) (E' : Value → Shared → Prop), i < n → P i v → LCg.NsObj oC m₂ → m₂ x = some v → Fr h₀ L h m → News h₀ L h ((I, oI) :: (C, oC) :: (D, LCg.lst ys) :: news) → LCg.Off3 I C D news → ((@Ne Nat I C) ∧ (@Ne Nat I D) ∧ (@Ne Nat C D)) →
      wpAny (model prog w) A (eval elt (compEnvC scope cl C env)) (LCg.CompEnd h₀ L m { s with heap := h, toks := tk } I oI C oC D (LCg.lst ys) S (fun y news' => news' = news ∧ R i y)) E' { s with heap := h, toks := tk })
    (fin : ∀ ys : List Value, ys.length = n → (∀ i y, ys[i]? = some y → R i y) → Fin ys news) : LCg.CompRest prog w A h₀ L m env elt x scope cl s S P Fin n 0 [] news := by
  have key : ∀ (j i : Nat) (ys : List Value), i + j = n → ys.length = i → (∀ i y, ys[i]? = some y → R i y) → LCg.CompRest prog w A h₀ L m env elt x scope cl s S P Fin j i ys news := by
    intro j
    induction j with
    | zero =>
      intro i ys hi hl hy
      exact LCg.CompRest.zero (fin ys (by omega) hy)
    | succ j ih =>
      intro i ys hi hl hy
      refine LCg.CompRest.succ ?_
      intro v I oI C oC D m₂ h tk E' hv hC hx F N off ne
      refine wpAny_mono (turn i v I oI C oC D m₂ ys h tk E' (by omega) hv hC hx F N off ne) (fun y s₂ hq => ?_) fun _ _ e => e
      obtain ⟨h', tk', nw, e, F', N', off', hS, hn, hR⟩ := hq
      rw [hn] at N' off' hS
      refine ⟨h', tk', news, e, F', N', off', hS, ?_⟩
      refine ih (i + 1) _ (by omega) (by simp [hl]) ?_
      intro k z hz
      rcases Nat.lt_trichotomy k ys.length with hk | hk | hk
      · rw [List.getElem?_append_left hk] at hz; exact hy k z hz
      · subst hk; simp at hz; rw [← hz, hl]; exact hR
      · rw [List.getElem?_eq_none (by simp; omega)] at hz; cases hz
  exact key n 0 [] (by omega) rfl (by simp)
theorem off1_ne {D : Addr} : ∀ {l : List (Addr × Obj)}, LCg.Off1 D l → ∀ p ∈ l, p.1 ≠ D
  | [], _, _, h => nomatch h
  | _ :: _, x, p, h => by
    rcases List.mem_cons.mp h with rfl | h
    · exact x.1
    · exact off1_ne x.2 p h
def tabS (third : Str) (k : Int) : Str :=
  Txt.item (Str.ofString "-r") ((k.fdiv 4).fmod 2) ++ Txt.item (Str.ofString "-w") ((k.fdiv 2).fmod 2) ++ Txt.item third (k.fdiv 8 * 2 + k.fmod 2)
theorem c_tabS (w : World) (mean : ExcName → Option Value) (mg mb : Str → Option Value) (news : List (Addr × Obj)) (t : Tok) :
    ClL w mean mg mb 85 news [.str (Str.ofString "-xSs") t] (fun xs => xs.length = 16 ∧ ∀ (i : Nat) (y : Value), xs[i]? = some y → ∃ t, y = Value.str (tabS (Str.ofString "-xSs") i) t) := by
  dsimp only [ClL]
  k_fill
  intros; rename_i hret
  refine wpAny_call ?_
  k_dflt (refine' code_defC ?k1 ?k2 ?k3 ?k4 ?k5 ?kA ?kF ?kK ?k6 ?k7 ?k8 ?k9 ?kB ?kD ?_ ?c2 ?c3 ?c4; (case kA => exact rfl); (case kF => exact rfl); (case kK => assumption); (case k1 => k_asm); (case k2 => k_asm); (case k3 => k_asm); (case k4 => k_asm); (case k5 => k_asm); (case k6 => k_is); (case k7 => k_is); (case k8 => ktr_room); (case k9 => exact BindsTo.of_eq rfl); (case kB => exact rfl); (case kD => decide +kernel); (case c2 => exact rfl); (case c3 => exact rfl); (case c4 => exact rfl); k_whole; intro g' L' h' tk' cells' FG' F' N' Y' B' X' T' l1; (try k_lt l1); k_cells Y'; (try simp only [List.cons_append, List.nil_append] at N'); (try dsimp only); (try k_lift B'); (try k_fold))
  repeat' ((fail_if_success (with_reducible show wpAny _ _ (eval (Expr.ListComp _ _ _ _) _) _ _ _)); first | (k_unfold; (try dsimp only)) | (k_end; kc_close) | walk1 | (dsimp only; walk1) | fail "no step")
  (with_reducible rename Fr _ _ _ _ => F)
  k_dflt (refine LCg.ListComp_U (F₀ := F) (by with_unfolding_all rfl) (by decide) (by rfl) (by decide) (by rfl) ?_)
  repeat' ((fail_if_success (with_reducible show LCg.CompSrc _ _ _ _ _ _ _ _ _ _ _ _ _ _)); first | (k_unfold; (try dsimp only)) | walk1 | (dsimp only; walk1) | fail "no step")
  refine LCg.CompSrc.range (n := 16) (by rfl) (by k_asm) (by k_asm) (by assumption) (by decide) (by rfl) (by rw [PySem.sizeLine_eq]; decide) ?_
  intro gg
  refine compAll (fun i y => ∃ t, y = Value.str (tabS (Str.ofString "-xSs") i) t) ?turn ?fin
  case turn =>
    intro i v I oI C oC D m₂ ys h tk E' hi hP hC hx F N off ne
    obtain ⟨tv, rfl⟩ := hP
    rw [Int.zero_add] at hx
    have hk0 : (0 : Int) ≤ (i : Int) := Int.natCast_nonneg i
    have hk1 : (i : Int) < 16 := by omega
    generalize (i : Int) = k at *
    k_steps
    exact ⟨_, _, _, rfl, F, N, off, trivial, rfl, _, rfl⟩
  case fin =>
    intro ys hl hy
    intro D h tk F N off
    have hoff := off1_ne off
    k_steps
    exact hret _ _ _ _ ⟨hl, hy⟩ (by k_asm) (by first | k_asm | (refine' cb_drop ?cbN ?cbS; (case cbN => assumption); (case cbS => kcj_all))) (fun p hp => hoff p (List.mem_cons_of_mem _ hp))
theorem c_tabT (w : World) (mean : ExcName → Option Value) (mg mb : Str → Option Value) (news : List (Addr × Obj)) (t : Tok) :
    ClL w mean mg mb 85 news [.str (Str.ofString "-xTt") t] (fun xs => xs.length = 16 ∧ ∀ (i : Nat) (y : Value), xs[i]? = some y → ∃ t, y = Value.str (tabS (Str.ofString "-xTt") i) t) := by
  dsimp only [ClL]
  k_fill
  intros; rename_i hret
  refine wpAny_call ?_
  k_dflt (refine' code_defC ?k1 ?k2 ?k3 ?k4 ?k5 ?kA ?kF ?kK ?k6 ?k7 ?k8 ?k9 ?kB ?kD ?_ ?c2 ?c3 ?c4; (case kA => exact rfl); (case kF => exact rfl); (case kK => assumption); (case k1 => k_asm); (case k2 => k_asm); (case k3 => k_asm); (case k4 => k_asm); (case k5 => k_asm); (case k6 => k_is); (case k7 => k_is); (case k8 => ktr_room); (case k9 => exact BindsTo.of_eq rfl); (case kB => exact rfl); (case kD => decide +kernel); (case c2 => exact rfl); (case c3 => exact rfl); (case c4 => exact rfl); k_whole; intro g' L' h' tk' cells' FG' F' N' Y' B' X' T' l1; (try k_lt l1); k_cells Y'; (try simp only [List.cons_append, List.nil_append] at N'); (try dsimp only); (try k_lift B'); (try k_fold))
  repeat' ((fail_if_success (with_reducible show wpAny _ _ (eval (Expr.ListComp _ _ _ _) _) _ _ _)); first | (k_unfold; (try dsimp only)) | (k_end; kc_close) | walk1 | (dsimp only; walk1) | fail "no step")
  (with_reducible rename Fr _ _ _ _ => F)
  k_dflt (refine LCg.ListComp_U (F₀ := F) (by with_unfolding_all rfl) (by decide) (by rfl) (by decide) (by rfl) ?_)
  repeat' ((fail_if_success (with_reducible show LCg.CompSrc _ _ _ _ _ _ _ _ _ _ _ _ _ _)); first | (k_unfold; (try dsimp only)) | walk1 | (dsimp only; walk1) | fail "no step")
  refine LCg.CompSrc.range (n := 16) (by rfl) (by k_asm) (by k_asm) (by assumption) (by decide) (by rfl) (by rw [PySem.sizeLine_eq]; decide) ?_
  intro gg
  refine compAll (fun i y => ∃ t, y = Value.str (tabS (Str.ofString "-xTt") i) t) ?turn ?fin
  case turn =>
    intro i v I oI C oC D m₂ ys h tk E' hi hP hC hx F N off ne
    obtain ⟨tv, rfl⟩ := hP
    rw [Int.zero_add] at hx
    have hk0 : (0 : Int) ≤ (i : Int) := Int.natCast_nonneg i
    have hk1 : (i : Int) < 16 := by omega
    generalize (i : Int) = k at *
    k_steps
    exact ⟨_, _, _, rfl, F, N, off, trivial, rfl, _, rfl⟩
  case fin =>
    intro ys hl hy
    intro D h tk F N off
    have hoff := off1_ne off
    k_steps
    exact hret _ _ _ _ ⟨hl, hy⟩ (by k_asm) (by first | k_asm | (refine' cb_drop ?cbN ?cbS; (case cbN => assumption); (case cbS => kcj_all))) (fun p hp => hoff p (List.mem_cons_of_mem _ hp))
end Mine
-- Cc0
namespace Mine
section
variable {prog : Program} {w : World} {A : Around} {E : Value → Shared → Prop} {s : Shared} {env : Env} {h₀ : Heap} {L : Addr} {m : Str → Option Value}
/-- a list comprehension over a range whose own name is a cell (a comprehension within it reads it) -/
theorem cellComp {elt iter : Expr} {x : Str} {px : Pos} {scope : Scope} {cl : List (Str × Addr)} {pos : Pos} {Q : Value → Shared → Prop} (_F₀ : Fr h₀ L s.heap m)
    (hclos : closureFor scope env = pure cl) (hkind : scope.kind = .function)
    (hnames : ∀ y ∈ scope.names, y.2 = .local → scope.names.lookup y.1 = some .local)
    (hnew : newFunctionEnv scope env.globals cl [] env.qual none .none (some env) = (do
      let l ← alloc { cls := .type "dict", data := .dict #[] }
      let c ← alloc { cls := .type "cell", data := .cell none }
      pure { scope := scope, locals := l, globals := env.globals, cells := (x, c) :: cl, qual := env.qual, func := none, code := env.code, frame := env.frame, builtins := env.builtins }))
    (hx : (relabel scope env).names.lookup x = some .cell)
    (h : wpAny (model prog w) A (eval iter env) (fun xv s₁ => ∃ (r : Addr) (a b : Int) (t u v : Tok) (n : Nat) (news : List (Addr × Obj)) (R : Nat → Value → Prop), xv = .ref r ∧ A.handled = none ∧ Fr h₀ L s₁.heap m ∧ News h₀ L s₁.heap news ∧ IsRange s₁.heap r a b 1 t u v ∧
      Builtin.Range.small a b 1 = true ∧ Builtin.Range.rangeSize a b 1 = ((n : Nat) : Int) ∧ n ≤ sizeLine ∧
      (∀ (i : Nat) (t : Tok) (I : Addr) (oI : Obj) (C : Addr) (oC : Obj) (D : Addr) (Kc : Addr) (oK : Obj) (ys : List Value) (h : Heap) (tk : Nat) (E' : Value → Shared → Prop), i < n → oK.data = .cell (some (.int (a + (i : Int)) t)) → Fr h₀ L h m →
        News h₀ L h ((I, oI) :: (C, oC) :: (D, LCg.lst ys) :: (Kc, oK) :: news) →
        wpAny (model prog w) A (eval elt (compEnvC scope ((x, Kc) :: cl) C env)) (fun y s₂ => ∃ h' tk', s₂ = { s₁ with heap := h', toks := tk' } ∧ Fr h₀ L h' m ∧ News h₀ L h' ((I, oI) :: (C, oC) :: (D, LCg.lst ys) :: (Kc, oK) :: news) ∧ R i y) E' { s₁ with heap := h, toks := tk }) ∧
      (∀ (ys : List Value) (D : Addr) (h : Heap) (tk : Nat), ys.length = n → (∀ i y, ys[i]? = some y → R i y) → Fr h₀ L h m → News h₀ L h ((D, LCg.lst ys) :: news) → (∀ p ∈ news, p.1 ≠ D) → Q (.ref D) { s₁ with heap := h, toks := tk })) E s)
    (hs : ∀ x, foldedSetIterable iter env x = pure x := by intro _; rfl) :
    wpAny (model prog w) A (eval (.ListComp elt [⟨.Name x px, iter, [], 0⟩] scope pos) env) Q E s := by
  rw [eval_ListComp]
  refine wpAny_comprehension_free (use := none) rfl hs hclos hkind hnames (wpAny_mono h (fun xv s₁ h₁ => ?_) fun _ _ e => e)
  obtain ⟨r, a, b, t, u, v, n, news, R, rfl, hh, F, N, hr, hsm, hn, hsz, turn, fin⟩ := h₁
  refine wpAny_pyIter_range hr hsm ?_
  refine wpAny_newObj_type ?_ (by size_fits)
  rw [hnew]
  refine wpAny_bind (wpAny_alloc (wpAny_bind (wpAny_alloc (wpAny_pure ?_))))
  dsimp only
  generalize hI : s₁.heap.objs.size = I at *
  generalize hH0 : s₁.heap.push _ = H0
  have sI : H0.objs.size = I + 1 := by rw [← hH0, Heap.size_push, hI]
  generalize hH1 : H0.push _ = H1
  have sD : H1.objs.size = I + 2 := by rw [← hH1, Heap.size_push, sI]
  generalize hH2 : H1.push _ = H2
  have sC : H2.objs.size = I + 3 := by rw [← hH2, Heap.size_push, sD]
  generalize hH3 : H2.push _ = H3
  rw [sI, sD, sC]
  have old : ∀ b o, s₁.heap.get? b = some o → H3.get? b = some o := fun b o e => by
    rw [← hH3, ← hH2, ← hH1, ← hH0]
    exact Heap.get?_push_of_some _ (Heap.get?_push_of_some _ (Heap.get?_push_of_some _ (Heap.get?_push_of_some _ e)))
  have up1 : ∀ b o, H0.get? b = some o → H3.get? b = some o := fun b o e => by
    rw [← hH3, ← hH2, ← hH1]
    exact Heap.get?_push_of_some _ (Heap.get?_push_of_some _ (Heap.get?_push_of_some _ e))
  have up2 : ∀ b o, H1.get? b = some o → H3.get? b = some o := fun b o e => by
    rw [← hH3, ← hH2]
    exact Heap.get?_push_of_some _ (Heap.get?_push_of_some _ e)
  have up3 : ∀ b o, H2.get? b = some o → H3.get? b = some o := fun b o e => by
    rw [← hH3]
    exact Heap.get?_push_of_some _ e
  have gI : IsRangeIter H3 I (a + ((0 : Nat) : Int) * 1) ((n : Int) - ((0 : Nat) : Int)) 1 := by
    have e : IsRangeIter H0 I a (Builtin.Range.rangeSize a b 1) 1 := by
      rw [← hH0, ← hI]; exact Heap.get?_push_size _ rfl
    rw [hn] at e
    show H3.get? I = some _
    refine up1 _ _ ?_
    have e' : H0.get? I = some _ := e
    simpa using e'
  have gD : H3.get? (I + 1) = some (LCg.lst []) := up2 _ _ (by rw [← hH1, ← sI]; exact Heap.get?_push_size _ rfl)
  have gC : H3.Ns (I + 2) (fun _ => none) := by
    have e : H2.Ns (I + 2) (fun _ => none) := by rw [← hH2, ← sD]; exact Heap.Ns.new H1 (.type "dict")
    exact e.at' fun o q => up3 _ o q
  have gK : H3.get? (I + 3) = some { cls := .type "cell", data := .cell none } := by rw [← hH3, ← sC]; exact Heap.get?_push_size _ rfl
  have fresh₀ : ∀ c, I ≤ c → h₀.get? c = none := fun c hc => by
    cases e : h₀.get? c with
    | none => rfl
    | some o' => exact absurd (Heap.lt_size (F.keep c o' e)) (by rw [hI]; exact Nat.not_lt.mpr hc)
  have hLlt : L < I := by rw [← hI]; exact F.ns.lt
  have nlt : ∀ p ∈ news, p.1 < I := fun p hp => by rw [← hI]; exact Heap.lt_size (N p hp).1
  have W := LCg.range_walks (prog := prog) (w := w) (A := A) (I := I) hh a n
  have loop : codeAny (model prog w) A (.compLoop (.ListComp elt [⟨.Name x px, iter, [], 0⟩] scope pos) 0 (.ref I) (.ref (I + 1)) (compEnvC scope ((x, I + 3) :: cl) (I + 2) env))
      (compPost (model prog w) A E none Q (.ref (I + 1)) (I + 2)) { s₁ with heap := H3 } := by
    refine codeAny_compLoop_tests
      (fun k s' => ∃ h' tk i ys mC oK vK, s' = { s₁ with heap := h', toks := tk } ∧ i ≤ n ∧ k = n + 1 - i ∧ ys.length = i ∧ IsRangeIter h' I (a + (i : Nat) * 1) ((n : Int) - (i : Nat)) 1 ∧ Fr h₀ L h' m ∧ h'.Ns (I + 2) mC ∧
        News h₀ L h' ((I + 1, LCg.lst ys) :: news) ∧ h'.get? (I + 3) = some oK ∧ oK.data = .cell vK ∧ ∀ i y, ys[i]? = some y → R i y) ?_ (n + 1)
      ⟨H3, s₁.toks, 0, [], _, _, _, rfl, Nat.zero_le _, rfl, rfl, gI, F.keeps old, gC, ?_, gK, rfl, by simp⟩
    · rintro k s' ⟨h', tk, i, ys, mC, oK, vK, rfl, hi, rfl, hyl, hst', F', hn', N', gK', dK', hR⟩
      by_cases hlt : i < n
      · refine W.item i _ _ _ hlt hst' fun v h₂ tk₂ hPv hst₂ hk₂ => ?_
        obtain ⟨tv, rfl⟩ := hPv
        have k₂ : ∀ b o, b ≠ I → h'.get? b = some o → h₂.get? b = some o := fun b o hb e => hk₂ b o (by simpa using hb) e
        refine wpAny_assign_Name (wpAny_storeName_cell (c := I + 3) (v₀ := vK) (by show scope.kind = _; exact hkind) hx (by simp [compEnvC]) ⟨oK, k₂ _ _ (by show I + 3 ≠ I; omega) gK', dK'⟩ (fun h₃ hc₃ hs₃ => ?_))
        refine wpAny_tests_nil ?_
        simp only [if_true]
        have k₃ : ∀ b o, b ≠ I → b ≠ I + 3 → h'.get? b = some o → h₃.get? b = some o := fun b o hb hb' e => hs₃.extBut b o hb' (k₂ b o hb e)
        have hst₃ : IsRangeIter h₃ I (a + ((i + 1 : Nat)) * 1) ((n : Int) - ((i + 1 : Nat))) 1 := hs₃.extBut _ _ (by show I ≠ I + 3; omega) hst₂
        obtain ⟨oK₃, gK₃, dK₃⟩ := hc₃
        have hn₃ : h₃.Ns (I + 2) mC := hn'.at' fun o e => k₃ _ o (by show I + 2 ≠ I; omega) (by show I + 2 ≠ I + 3; omega) e
        obtain ⟨oC, heC, hoC⟩ := LCg.ns_obj hn₃
        have F₃ : Fr h₀ L h₃ m := ⟨F'.ns.at' fun o e => k₃ _ o (Nat.ne_of_lt hLlt) (Nat.ne_of_lt (Nat.lt_add_right 3 hLlt)) e, fun b o e => k₃ b o (fun q => by rw [q, fresh₀ I (Nat.le_refl _)] at e; cases e) (fun q => by rw [q, fresh₀ (I + 3) (Nat.le_add_right _ _)] at e; cases e) (F'.keep b o e), F'.above⟩
        have hLne : ∀ j : Nat, I + j ≠ L := fun j => Nat.ne_of_gt (Nat.lt_add_right j hLlt)
        have N₃ : News h₀ L h₃ ((I, _) :: (I + 2, oC) :: (I + 1, LCg.lst ys) :: (I + 3, oK₃) :: news) := fun p hp => by
          rcases List.mem_cons.mp hp with rfl | hp
          · exact ⟨hst₃, hLne 0, fresh₀ _ (Nat.le_refl _)⟩
          · rcases List.mem_cons.mp hp with rfl | hp
            · exact ⟨heC, hLne 2, fresh₀ _ (Nat.le_add_right _ _)⟩
            · rcases List.mem_cons.mp hp with rfl | hp
              · exact ⟨k₃ _ _ (by show I + 1 ≠ I; omega) (by show I + 1 ≠ I + 3; omega) (N' _ (List.mem_cons_self ..)).1, hLne 1, fresh₀ _ (Nat.le_add_right _ _)⟩
              · rcases List.mem_cons.mp hp with rfl | hp
                · exact ⟨gK₃, hLne 3, fresh₀ _ (Nat.le_add_right _ _)⟩
                · have q := nlt p hp
                  have z := N' p (List.mem_cons_of_mem _ hp)
                  exact ⟨k₃ _ _ (Nat.ne_of_lt q) (Nat.ne_of_lt (Nat.lt_add_right 3 q)) z.1, z.2⟩
        refine wpAny_mono (turn i tv I _ (I + 2) oC (I + 1) (I + 3) oK₃ ys h₃ tk₂ _ hlt dK₃ F₃ N₃) (fun y s₄ h₄ => ?_) fun _ _ e => e
        obtain ⟨h₄, tk₄, rfl, F₄, N₄, hRy⟩ := h₄
        have zI := (N₄ _ List.mem_cons_self).1
        have zC := (N₄ (I + 2, oC) (List.mem_cons_of_mem _ List.mem_cons_self)).1
        have zD := (N₄ (I + 1, LCg.lst ys) (List.mem_cons_of_mem _ (List.mem_cons_of_mem _ List.mem_cons_self))).1
        have zK := (N₄ (I + 3, oK₃) (List.mem_cons_of_mem _ (List.mem_cons_of_mem _ (List.mem_cons_of_mem _ List.mem_cons_self)))).1
        refine append_at (hsz := by show ys.toArray.size ≤ sizeLine; rw [List.size_toArray, hyl]; exact Nat.le_trans hi hsz) zD fun h₅ hs₅ hD₅ => ?_
        refine ⟨n + 1 - (i + 1), by omega, h₅, tk₄, i + 1, ys ++ [y], _, oK₃, _, rfl, hlt, rfl, by rw [List.length_append, List.length_singleton, hyl], hs₅.extBut _ _ (by show I ≠ I + 1; omega) zI, F₄.change hs₅ (hLne 1) (fresh₀ _ (Nat.le_add_right _ _)),
          (hoC.ns zC).sameBut hs₅ (by show I + 2 ≠ I + 1; omega), fun p hp => ?_, hs₅.extBut _ _ (by show I + 3 ≠ I + 1; omega) zK, dK₃, ?_⟩
        · rcases List.mem_cons.mp hp with rfl | hp
          · exact ⟨hD₅.trans (congrArg some (LCg.lst_snoc ys y)), hLne 1, fresh₀ _ (Nat.le_add_right _ _)⟩
          · have z := N₄ p (List.mem_cons_of_mem _ (List.mem_cons_of_mem _ (List.mem_cons_of_mem _ (List.mem_cons_of_mem _ hp))))
            exact ⟨hs₅.extBut _ _ (Nat.ne_of_lt (Nat.lt_add_right 1 (nlt p hp))) z.1, z.2⟩
        · intro k z hz
          rcases Nat.lt_trichotomy k ys.length with hk | hk | hk
          · rw [List.getElem?_append_left hk] at hz; exact hR k z hz
          · subst hk; simp at hz; rw [← hz, hyl]; exact hRy
          · rw [List.getElem?_eq_none (by simp; omega)] at hz; cases hz
      · obtain rfl : i = n := Nat.le_antisymm hi (Nat.not_lt.mp hlt)
        refine W.done _ _ _ hst' fun h₂ tk₂ hk₂ => ?_
        have k₂ : ∀ b o, b ≠ I → h'.get? b = some o → h₂.get? b = some o := fun b o hb e => hk₂ b o (by simpa using hb) e
        refine ⟨mC, hn'.at' fun o e => k₂ _ o (by show I + 2 ≠ I; omega) e, fun h'' hs'' => fin ys (I + 1) h'' tk₂ hyl hR ?_ ?_ fun p hp => Nat.ne_of_lt (Nat.lt_add_right 1 (nlt p hp))⟩
        · have k₄ : ∀ b o, b ≠ I → b ≠ I + 2 → h'.get? b = some o → h''.get? b = some o := fun b o hb hb' e => hs''.extBut b o hb' (k₂ b o hb e)
          exact ⟨F'.ns.at' fun o e => k₄ _ o (Nat.ne_of_lt hLlt) (Nat.ne_of_lt (Nat.lt_add_right 2 hLlt)) e, fun b o e => k₄ b o (fun q => by rw [q, fresh₀ I (Nat.le_refl _)] at e; cases e) (fun q => by rw [q, fresh₀ (I + 2) (Nat.le_add_right _ _)] at e; cases e) (F'.keep b o e), F'.above⟩
        · intro p hp
          have z := N' p hp
          refine ⟨hs''.extBut _ _ ?_ (k₂ _ _ ?_ z.1), z.2⟩
          · rcases List.mem_cons.mp hp with rfl | hp
            · show I + 1 ≠ I + 2; omega
            · exact Nat.ne_of_lt (Nat.lt_add_right 2 (nlt p hp))
          · rcases List.mem_cons.mp hp with rfl | hp
            · show I + 1 ≠ I; omega
            · exact Nat.ne_of_lt (nlt p hp)
    · intro p hp
      rcases List.mem_cons.mp hp with rfl | hp
      · exact ⟨gD, Nat.ne_of_gt (Nat.lt_add_right 1 hLlt), fresh₀ _ (Nat.le_add_right _ _)⟩
      · exact ⟨old _ _ (N p hp).1, (N p hp).2⟩
  exact codeAny_compStart_list loop (W.self 0 _ _ _ gI loop)
end
end Mine
-- RwD
namespace Mine
def ringI (i : Nat) : Int := ([3, 4, 5, 6, 8, 10, 7, 9] : List Int).getD i 0
def onesF (v : Int) (i : Nat) : Int := (v.fdiv (2 ^ (ringI i).toNat)).fmod 2
theorem list8 {ys : List Value} {f : Nat → Int} (hl : ys.length = 8) (hy : ∀ i y, ys[i]? = some y → ∃ t, y = Value.int (f i) t) :
    ∃ t0 t1 t2 t3 t4 t5 t6 t7, ys = [.int (f 0) t0, .int (f 1) t1, .int (f 2) t2, .int (f 3) t3, .int (f 4) t4, .int (f 5) t5, .int (f 6) t6, .int (f 7) t7] := by
  match ys, hl with
  | [y0, y1, y2, y3, y4, y5, y6, y7], _ =>
    obtain ⟨t0, rfl⟩ := hy 0 y0 rfl
    obtain ⟨t1, rfl⟩ := hy 1 y1 rfl
    obtain ⟨t2, rfl⟩ := hy 2 y2 rfl
    obtain ⟨t3, rfl⟩ := hy 3 y3 rfl
    obtain ⟨t4, rfl⟩ := hy 4 y4 rfl
    obtain ⟨t5, rfl⟩ := hy 5 y5 rfl
    obtain ⟨t6, rfl⟩ := hy 6 y6 rfl
    obtain ⟨t7, rfl⟩ := hy 7 y7 rfl
    exact ⟨t0, t1, t2, t3, t4, t5, t6, t7, rfl⟩
theorem ones_bit (v : Int) (i : Nat) : 0 ≤ onesF v i ∧ onesF v i ≤ 1 := by
  unfold onesF
  rw [Int.fmod_eq_emod_of_nonneg _ (by decide)]
  omega
def rowO (v : Int) (o : List Int) (k : Nat) : Int :=
  v - (o.getD 0 0 * 8 + (o.getD 1 0 * 16 + (o.getD 2 0 * 32 + (o.getD 3 0 * 64 + (o.getD 4 0 * 256 + (o.getD 5 0 * 1024 + (o.getD 6 0 * 128 + (o.getD 7 0 * 512 + 0))))))))
    + (o.getD ((0 + 16 - k) % 8) 0 * 8 + (o.getD ((1 + 16 - k) % 8) 0 * 16 + (o.getD ((2 + 16 - k) % 8) 0 * 32 + (o.getD ((3 + 16 - k) % 8) 0 * 64 + (o.getD ((4 + 16 - k) % 8) 0 * 256 + (o.getD ((5 + 16 - k) % 8) 0 * 1024 + (o.getD ((6 + 16 - k) % 8) 0 * 128 + (o.getD ((7 + 16 - k) % 8) 0 * 512 + 0))))))))
def rowF (v : Int) (k : Nat) : Int := rowO v [onesF v 0, onesF v 1, onesF v 2, onesF v 3, onesF v 4, onesF v 5, onesF v 6, onesF v 7] k
end Mine
-- Rw2
namespace Mine
theorem ring_in (i : Nat) : 0 ≤ ringI i ∧ ringI i ≤ 1000000 := by
  by_cases h : i < 8
  · have : i = 0 ∨ i = 1 ∨ i = 2 ∨ i = 3 ∨ i = 4 ∨ i = 5 ∨ i = 6 ∨ i = 7 := by omega
    rcases this with e | e | e | e | e | e | e | e <;> subst e <;> decide
  · unfold ringI
    rw [List.getD_eq_getElem?_getD, List.getElem?_eq_none (by simpa using h)]
    decide
theorem ring8 {a0 a1 a2 a3 a4 a5 a6 a7 : Tok} : ∀ (i : Nat) (y : Value), ([.int 3 a0, .int 4 a1, .int 5 a2, .int 6 a3, .int 8 a4, .int 10 a5, .int 7 a6, .int 9 a7] : List Value)[i]? = some y → ∃ t, y = Value.int (ringI i) t := by
  intro i y h
  match i, h with
  | 0, h => exact ⟨a0, (Option.some.inj h).symm⟩
  | 1, h => exact ⟨a1, (Option.some.inj h).symm⟩
  | 2, h => exact ⟨a2, (Option.some.inj h).symm⟩
  | 3, h => exact ⟨a3, (Option.some.inj h).symm⟩
  | 4, h => exact ⟨a4, (Option.some.inj h).symm⟩
  | 5, h => exact ⟨a5, (Option.some.inj h).symm⟩
  | 6, h => exact ⟨a6, (Option.some.inj h).symm⟩
  | 7, h => exact ⟨a7, (Option.some.inj h).symm⟩
  | n + 8, h => simp at h
/-- an item of a list of eight numbers, from either end -/
theorem item8 {prog : Program} {w : World} {A : Around} {E : Value → Shared → Prop} {s : Shared} {value slice : PySem.Expr} {l : Addr} {vs : List Value} {k : Int} {u : Tok} {Q : Value → Shared → Prop} {f : Nat → Int}
    (hl : s.heap.IsList l vs.toArray) (hlen : vs.length = 8) (hy : ∀ (i : Nat) (y : Value), vs[i]? = some y → ∃ t, y = Value.int (f i) t) (h0 : -8 ≤ k) (h1 : k < 8) (h : ∀ t, Q (.int (f (k % 8).toNat) t) s)
    (hs : subscripted slice false (.ref l) (.int k u) = operate [.ref l, .int k u] (getItem (.ref l) (.int k u)) := by with_unfolding_all rfl) :
    wpAny (model prog w) A (subscriptTail value slice (.ref l) (.int k u)) Q E s := by
  have hlt : (k % 8).toNat < vs.length := by omega
  obtain ⟨t, e⟩ := hy (k % 8).toNat vs[(k % 8).toNat] (by simp [hlt])
  have hx : vs[(k % 8).toNat]? = some (.int (f (k % 8).toNat) t) := by rw [List.getElem?_eq_getElem hlt, e]
  by_cases hk : 0 ≤ k
  · have e8 : k % 8 = k := by omega
    refine tail_any hl.typeIs slot_list_getitem.lookup (wpAny_getItem_list hl hk (by omega) (x := .int (f (k % 8).toNat) t) ?_ (h t)) hs
    rw [e8] at hx ⊢
    simpa using hx
  · have e8 : k + ((vs.toArray.size : Nat) : Int) = k % 8 := by simp only [List.size_toArray, hlen]; omega
    refine tail_any hl.typeIs slot_list_getitem.lookup (wpAny_getItem_list_neg hl (by omega) (by simp only [List.size_toArray, hlen]; omega) (by omega) (x := .int (f (k % 8).toNat) t) ?_ (h t)) hs
    rw [e8]
    simpa using hx
theorem item8R {prog : Program} {w : World} {A : Around} {E : Value → Shared → Prop} {s : Shared} {value slice : PySem.Expr} {l : Addr} {k : Int} {u : Tok} {Q : Value → Shared → Prop} {a0 a1 a2 a3 a4 a5 a6 a7 : Tok}
    (hl : s.heap.IsList l #[.int 3 a0, .int 4 a1, .int 5 a2, .int 6 a3, .int 8 a4, .int 10 a5, .int 7 a6, .int 9 a7]) (h0 : -8 ≤ k) (h1 : k < 8) (h : ∀ t, Q (.int (ringI (k % 8).toNat) t) s)
    (hs : subscripted slice false (.ref l) (.int k u) = operate [.ref l, .int k u] (getItem (.ref l) (.int k u)) := by with_unfolding_all rfl) :
    wpAny (model prog w) A (subscriptTail value slice (.ref l) (.int k u)) Q E s := item8 (f := ringI) hl rfl ring8 h0 h1 h hs
theorem ones_ok (v : Int) (j : Nat) (b : Int) : IntMulOk (onesF v j) b :=
  PySem.IntMulOk.of_left (PySem.intBits_le_64 (by have := ones_bit v j; omega) (by have := ones_bit v j; omega))
theorem pw_eq {i : Nat} (h : i < 8) : (2 : Int) ^ (ringI ((i : Int) % 8).toNat).toNat = ([8, 16, 32, 64, 256, 1024, 128, 512] : List Int).getD i 0 := by
  have : i = 0 ∨ i = 1 ∨ i = 2 ∨ i = 3 ∨ i = 4 ∨ i = 5 ∨ i = 6 ∨ i = 7 := by omega
  rcases this with e | e | e | e | e | e | e | e <;> subst e <;> decide
theorem val2 (v : Int) {i : Nat} (h : i < 8) : onesF v ((i : Int) % 8).toNat * (2 : Int) ^ (ringI ((i : Int) % 8).toNat).toNat = onesF v i * ([8, 16, 32, 64, 256, 1024, 128, 512] : List Int).getD i 0 := by
  rw [pw_eq h, show ((i : Int) % 8).toNat = i by omega]
theorem val3 (v : Int) {i k : Nat} (h : i < 8) (hk : k < 9) : onesF v (((i : Int) - (k : Int)) % 8).toNat * (2 : Int) ^ (ringI ((i : Int) % 8).toNat).toNat = [onesF v 0, onesF v 1, onesF v 2, onesF v 3, onesF v 4, onesF v 5, onesF v 6, onesF v 7].getD ((i + 16 - k) % 8) 0 * ([8, 16, 32, 64, 256, 1024, 128, 512] : List Int).getD i 0 := by
  rw [pw_eq h, show (((i : Int) - (k : Int)) % 8).toNat = (i + 16 - k) % 8 by omega]
  have hj : (i + 16 - k) % 8 < 8 := Nat.mod_lt _ (by decide)
  generalize (i + 16 - k) % 8 = j at *
  have : j = 0 ∨ j = 1 ∨ j = 2 ∨ j = 3 ∨ j = 4 ∨ j = 5 ∨ j = 6 ∨ j = 7 := by omega
  rcases this with e | e | e | e | e | e | e | e <;> subst e <;> rfl
local macro_rules | `(tactic| k_all) => `(tactic| assumption)
theorem c_row (w : World) (mean : ExcName → Option Value) (mg mb : Str → Option Value) (news : List (Addr × Obj)) (v : Int) (t : Tok) (hv0 : 0 ≤ v) (hv1 : v < 1048576) :
    ClL w mean mg mb 80 news [.int v t] (fun xs => xs.length = 9 ∧ ∀ (i : Nat) (y : Value), xs[i]? = some y → ∃ t, y = Value.int (rowF v i) t) := by
  unfold rowF
  dsimp only [ClL]
  k_fill
  intros; rename_i hret
  refine wpAny_call ?_
  k_dflt (refine' code_defC ?k1 ?k2 ?k3 ?k4 ?k5 ?kA ?kF ?kK ?k6 ?k7 ?k8 ?k9 ?kB ?kD ?_ ?c2 ?c3 ?c4; (case kA => exact rfl); (case kF => exact rfl); (case kK => assumption); (case k1 => k_asm); (case k2 => k_asm); (case k3 => k_asm); (case k4 => k_asm); (case k5 => k_asm); (case k6 => k_is); (case k7 => k_is); (case k8 => ktr_room); (case k9 => exact BindsTo.of_eq rfl); (case kB => exact rfl); (case kD => decide +kernel); (case c2 => exact rfl); (case c3 => exact rfl); (case c4 => exact rfl); k_whole; intro g' L' h' tk' cells' FG' F' N' Y' B' X' T' l1; (try k_lt l1); k_cells Y'; (try simp only [List.cons_append, List.nil_append] at N'); (try dsimp only); (try k_lift B'); (try k_fold))
  have q1 : ∀ p ∈ news, p.1 ≠ L' + 1 := fun p hp => by have := l1 p hp; exact Nat.ne_of_lt (Nat.lt_add_right 1 this)
  have q2 : ∀ p ∈ news, p.1 ≠ L' + 1 + 1 := fun p hp => by have := l1 p hp; exact Nat.ne_of_lt (Nat.lt_add_right 1 (Nat.lt_add_right 1 this))
  have q3 : ∀ p ∈ news, p.1 ≠ L' + 1 + 1 + 1 := fun p hp => by have := l1 p hp; exact Nat.ne_of_lt (Nat.lt_add_right 1 (Nat.lt_add_right 1 (Nat.lt_add_right 1 this)))
  have q4 : ∀ p ∈ news, p.1 ≠ L' + 1 + 1 + 1 + 1 := fun p hp => by have := l1 p hp; exact Nat.ne_of_lt (Nat.lt_add_right 1 (Nat.lt_add_right 1 (Nat.lt_add_right 1 (Nat.lt_add_right 1 this))))
  repeat' ((fail_if_success (with_reducible show wpAny _ _ (eval (Expr.ListComp _ _ _ _) _) _ _ _)); first | (k_unfold; (try dsimp only)) | (k_end; kc_close) | walk1 | (dsimp only; walk1) | fail "no step")
  (with_reducible rename Fr _ _ _ _ => F)
  k_dflt (refine LCg.ListComp_U (F₀ := F) (by with_unfolding_all rfl) (by decide) (by rfl) (by decide) (by rfl) ?_)
  repeat' ((fail_if_success (with_reducible show LCg.CompSrc _ _ _ _ _ _ _ _ _ _ _ _ _ _)); first | (k_unfold; (try dsimp only)) | walk1 | (dsimp only; walk1) | fail "no step")
  refine LCg.CompSrc.ledger (by rfl) (by k_asm) (by k_asm) (by k_mem) (by rw [PySem.sizeLine_eq]; simp) ?_
  intro gg
  refine compAll (fun i y => ∃ t, y = Value.int (onesF v i) t) ?turn1 ?fin1
  case turn1 =>
    intro i x I oI C oC D m₂ ys h tk E' hi hP hC hx F N off ne
    have hi' : i = 0 ∨ i = 1 ∨ i = 2 ∨ i = 3 ∨ i = 4 ∨ i = 5 ∨ i = 6 ∨ i = 7 := by
      have : i < 8 := hi
      omega
    rcases hi' with e | e | e | e | e | e | e | e <;> subst e <;> simp only [List.getElem?_toArray, List.getElem?_cons_zero, List.getElem?_cons_succ, Option.some.injEq] at hP <;> subst hP
    all_goals (k_steps; exact ⟨_, _, _, rfl, F, N, off, .inr ⟨_, List.mem_cons_self .., rfl, _, rfl⟩, rfl, _, rfl⟩)
  case fin1 =>
    intro os hlo hyo
    intro D h tk F N off
    simp only [LCg.Off1] at off
    have qD := off1_ne off.2.2.2.2.2
    repeat' ((fail_if_success (with_reducible show wpAny _ _ (eval (Expr.ListComp _ _ _ _) _) _ _ _)); first | (k_unfold; (try dsimp only)) | walk1 | (dsimp only; walk1) | fail "no step")
    (with_reducible rename Fr _ _ _ _ => F)
    k_dflt (refine LCg.ListComp_U (F₀ := F) (by with_unfolding_all rfl) (by decide) (by rfl) (by decide) (by rfl) ?_)
    repeat' ((fail_if_success (with_reducible show LCg.CompSrc _ _ _ _ _ _ _ _ _ _ _ _ _ _)); first | (k_unfold; (try dsimp only)) | walk1 | (dsimp only; walk1) | fail "no step")
    refine LCg.CompSrc.range (n := 8) (by rfl) (by k_asm) (by k_asm) (by assumption) (by decide) (by rfl) (by rw [PySem.sizeLine_eq]; decide) ?_
    intro gg
    refine compAll (fun i y => ∃ t, y = Value.int (onesF v i * ([8, 16, 32, 64, 256, 1024, 128, 512] : List Int).getD i 0) t) ?turn2 ?fin2
    case turn2 =>
      intro i x I oI C oC D m₂ ys h tk E' hi hP hC hx F N off ne
      obtain ⟨tv, rfl⟩ := hP
      simp only [Int.zero_add] at hx
      repeat' ((fail_if_success (with_reducible show wpAny _ _ (subscriptTail _ _ _ _) _ _ _)); first | (k_unfold; (try dsimp only)) | walk1 | (dsimp only; walk1) | fail "no step")
      refine item8 (f := onesF v) (News.isList (by k_asm) (by k_mem)) (by assumption) (by assumption) (by omega) (by omega) ?_
      intro t9
      repeat' ((fail_if_success (with_reducible show wpAny _ _ (subscriptTail _ _ _ _) _ _ _)); first | (k_unfold; (try dsimp only)) | walk1 | (dsimp only; walk1) | fail "no step")
      refine item8R (News.isList (by k_asm) (by k_mem)) (by omega) (by omega) ?_
      intro t8
      repeat' ((fail_if_success (with_reducible show wpAny _ _ (binaryOp Operator.Pow _ _) _ _ _)); first | (k_unfold; (try dsimp only)) | walk1 | (dsimp only; walk1) | fail "no step")
      refine pow_int_small (ring_in _).1 (ring_in _).2 (by decide) ?_
      try dsimp only
      refine mul_int (hm := ones_ok v _ _) ?_
      try dsimp only
      exact ⟨_, _, _, rfl, F, N, off, trivial, rfl, _, congrArg (fun z => Value.int z _) (val2 v hi)⟩
    case fin2 =>
      intro ys hl hy
      intro D h tk F N off
      obtain ⟨u0, u1, u2, u3, u4, u5, u6, u7, rfl⟩ := list8 hl hy
      have N : News _ _ _ ((D, W.listOf #[.int (onesF v 0 * 8) u0, .int (onesF v 1 * 16) u1, .int (onesF v 2 * 32) u2, .int (onesF v 3 * 64) u3, .int (onesF v 4 * 256) u4, .int (onesF v 5 * 1024) u5, .int (onesF v 6 * 128) u6, .int (onesF v 7 * 512) u7] 8) :: _) := N
      simp only [LCg.Off1] at off
      have qD2 := off1_ne off.2.2.2.2.2.2
      clear hl hy
      repeat' ((fail_if_success (with_reducible show wpAny _ _ (eval (Expr.ListComp _ _ _ _) _) _ _ _)); first | (k_unfold; (try dsimp only)) | walk1 | (dsimp only; walk1) | fail "no step")
      (with_reducible rename Fr _ _ _ _ => F)
      k_dflt (refine cellComp F (by with_unfolding_all rfl) (by rfl) (by decide) (by with_unfolding_all rfl) (by with_unfolding_all rfl) ?_)
      repeat' ((fail_if_success (with_reducible show Exists _)); first | (k_unfold; (try dsimp only)) | walk1 | (dsimp only; walk1) | fail "no step")
      (with_reducible rename Fr _ _ _ _ => F)
      (with_reducible rename News _ _ _ _ => N)
      refine ⟨_, _, _, _, _, _, 9, _, fun k y => ∃ t, y = Value.int (rowO v [onesF v 0, onesF v 1, onesF v 2, onesF v 3, onesF v 4, onesF v 5, onesF v 6, onesF v 7] k) t, rfl, rfl, F, N, by assumption, by decide, by rfl, by rw [PySem.sizeLine_eq]; decide, ?turn3, ?fin3⟩
      case turn3 =>
        intro k tk9 I oI C oC D3 Kc oK ys h tk E' hk hoK F N
        simp only [Int.zero_add] at hoK
        repeat' ((fail_if_success (with_reducible show wpAny _ _ (eval (Expr.ListComp _ _ _ _) _) _ _ _)); first | (k_unfold; (try dsimp only)) | walk1 | (dsimp only; walk1) | fail "no step")
        k_dflt (refine LCg.ListComp_U (F₀ := F) (by with_unfolding_all rfl) (by decide) (by rfl) (by decide) (by rfl) ?_)
        repeat' ((fail_if_success (with_reducible show LCg.CompSrc _ _ _ _ _ _ _ _ _ _ _ _ _ _)); first | (k_unfold; (try dsimp only)) | walk1 | (dsimp only; walk1) | fail "no step")
        refine LCg.CompSrc.range (n := 8) (by rfl) (by k_asm) (by k_asm) (by assumption) (by decide) (by rfl) (by rw [PySem.sizeLine_eq]; decide) ?_
        intro gg
        refine compAll (fun i y => ∃ t, y = Value.int ([onesF v 0, onesF v 1, onesF v 2, onesF v 3, onesF v 4, onesF v 5, onesF v 6, onesF v 7].getD ((i + 16 - k) % 8) 0 * ([8, 16, 32, 64, 256, 1024, 128, 512] : List Int).getD i 0) t) (fun i x I oI C oC D m₂ ys h tk E' hi hP hC hx F N off ne => ?_) (fun ys hl hy D h tk F N off => ?_)
        · obtain ⟨tv, rfl⟩ := hP
          simp only [Int.zero_add] at hx
          repeat' ((fail_if_success (with_reducible show wpAny _ _ (subscriptTail _ _ _ _) _ _ _)); first | (k_unfold; (try dsimp only)) | walk1 | (dsimp only; walk1) | fail "no step")
          refine item8 (f := onesF v) (News.isList (by k_asm) (by k_mem)) (by assumption) (by assumption) (by omega) (by omega) ?_
          intro t9
          repeat' ((fail_if_success (with_reducible show wpAny _ _ (subscriptTail _ _ _ _) _ _ _)); first | (k_unfold; (try dsimp only)) | walk1 | (dsimp only; walk1) | fail "no step")
          refine item8R (News.isList (by k_asm) (by k_mem)) (by omega) (by omega) ?_
          intro t8
          repeat' ((fail_if_success (with_reducible show wpAny _ _ (binaryOp Operator.Pow _ _) _ _ _)); first | (k_unfold; (try dsimp only)) | walk1 | (dsimp only; walk1) | fail "no step")
          refine pow_int_small (ring_in _).1 (ring_in _).2 (by decide) ?_
          try dsimp only
          refine mul_int (hm := ones_ok v _ _) ?_
          try dsimp only
          exact ⟨_, _, _, rfl, F, N, off, trivial, rfl, _, congrArg (fun z => Value.int z _) (val3 v hi hk)⟩
        · obtain ⟨u0, u1, u2, u3, u4, u5, u6, u7, rfl⟩ := list8 hl hy
          clear hl hy
          repeat' ((fail_if_success (with_reducible show Exists _)); first | (k_unfold; (try dsimp only)) | walk1 | (dsimp only; walk1) | fail "no step")
          exact ⟨_, _, rfl, by k_asm, by first | k_asm | (refine' cb_drop ?cbN ?cbS; (case cbN => assumption); (case cbS => kcj_all)), _, rfl⟩
      case fin3 =>
        intro ys D3 h tk hl hy F N hne
        k_steps
        exact hret _ _ _ _ ⟨hl, hy⟩ (by k_asm) (by first | k_asm | (refine' cb_drop ?cbN ?cbS; (case cbN => assumption); (case cbS => kcj_all))) (fun p hp => hne p (by simp [hp]))
end Mine
-- En0
namespace Mine
open Builtin._codecs in
theorem enc0 (self : Value) : encodeNarrow "str.encode" asciiCodec none self ⟨#[]⟩ = pure #[] := by
  unfold encodeNarrow
  simp [Str.length]
open Builtin._codecs in
theorem enc1 (self : Value) (a : Nat) (ha : a < 128) : encodeNarrow "str.encode" asciiCodec none self ⟨#[a]⟩ = pure #[a.toUInt8] := by
  have ha' : ¬ 128 ≤ a := by omega
  unfold encodeNarrow
  simp [Str.length, asciiCodec, ha, ha', Std.Legacy.Range.forIn_eq_forIn_range', List.range', sizeLine_eq, List.findIdx?_cons]
open Builtin._codecs in
theorem enc2 (self : Value) (a b : Nat) (ha : a < 128) (hb : b < 128) : encodeNarrow "str.encode" asciiCodec none self ⟨#[a, b]⟩ = pure #[a.toUInt8, b.toUInt8] := by
  have ha' : ¬ 128 ≤ a := by omega
  have hb' : ¬ 128 ≤ b := by omega
  unfold encodeNarrow
  simp [Str.length, asciiCodec, ha, ha', hb, hb', Std.Legacy.Range.forIn_eq_forIn_range', List.range', sizeLine_eq, List.findIdx?_cons]
open Builtin._codecs in
theorem enc3 (self : Value) (a b c : Nat) (ha : a < 128) (hb : b < 128) (hc : c < 128) : encodeNarrow "str.encode" asciiCodec none self ⟨#[a, b, c]⟩ = pure #[a.toUInt8, b.toUInt8, c.toUInt8] := by
  have ha' : ¬ 128 ≤ a := by omega
  have hb' : ¬ 128 ≤ b := by omega
  have hc' : ¬ 128 ≤ c := by omega
  unfold encodeNarrow
  simp [Str.length, asciiCodec, ha, ha', hb, hb', hc, hc', Std.Legacy.Range.forIn_eq_forIn_range', List.range', sizeLine_eq, List.findIdx?_cons]
open Builtin._codecs in
theorem enc4 (self : Value) (a b c d : Nat) (ha : a < 128) (hb : b < 128) (hc : c < 128) (hd : d < 128) : encodeNarrow "str.encode" asciiCodec none self ⟨#[a, b, c, d]⟩ = pure #[a.toUInt8, b.toUInt8, c.toUInt8, d.toUInt8] := by
  have ha' : ¬ 128 ≤ a := by omega
  have hb' : ¬ 128 ≤ b := by omega
  have hc' : ¬ 128 ≤ c := by omega
  have hd' : ¬ 128 ≤ d := by omega
  unfold encodeNarrow
  simp [Str.length, asciiCodec, ha, ha', hb, hb', hc, hc', hd, hd', Std.Legacy.Range.forIn_eq_forIn_range', List.range', sizeLine_eq, List.findIdx?_cons]
open Builtin._codecs in
theorem encR (self : Value) (x : Str) : encodeRoad "str.encode" self x (Str.ofString "ascii") none = (do mkBytes (← encodeNarrow "str.encode" asciiCodec none self x)) := by
  first | rfl | (unfold encodeRoad; rfl) | (unfold encodeRoad; simp only []; rfl)
open Builtin._codecs in
theorem encT (x : Str) (t u : Tok) : Builtin.«str.encode» ⟨[.str x t, .str (Str.ofString "ascii") u], []⟩ = (do ret (← encodeRoad "str.encode" (.str x t) x (Str.ofString "ascii") none)) := by
  kernel_rfl
theorem encode_ascii {prog : Program} {w : World} {A : Around} {E : Value → Shared → Prop} {s : Shared} {x : Str} {t u : Tok} {b : Array UInt8} {Q : Value → Shared → Prop}
    (hb : Builtin._codecs.encodeNarrow "str.encode" Builtin._codecs.asciiCodec none (.str x t) x = pure b) (hsz : b.size ≤ sizeLine)
    (h : ∀ t' k, Q (.bytes b t') { s with toks := k }) : wpAny (model prog w) A (call (.builtin "str.encode") [.str x t, .str (Str.ofString "ascii") u]) Q E s := by
  refine wpAny_call_entry F.slot_str_encode (typeIs_str _ _ _) F.entry_str_encode ?_ (F.args_str_encode_2 _ _)
  rw [encT, encR, hb]
  refine wpAny_bind (wpAny_bind (wpAny_pure (wpAny_mkBytes ?_ hsz)))
  exact wpAny_pure ⟨_, rfl, h _ _⟩
end Mine
-- Ls0
namespace Mine
theorem strA : Str.ofString "A" = ⟨#[65]⟩ := by decide +kernel
theorem lstripA (a b c d : Nat) : Txt.lstripChars ⟨#[a, b, c, d]⟩ (Str.ofString "A") =
    if a ≠ 65 then ⟨#[a, b, c, d]⟩ else if b ≠ 65 then ⟨#[b, c, d]⟩ else if c ≠ 65 then ⟨#[c, d]⟩ else if d ≠ 65 then ⟨#[d]⟩ else ⟨#[]⟩ := by
  rw [strA]
  unfold Txt.lstripChars Txt.stripBy PySem.stripSame PySem.stripped PySem.stripLo PySem.stripHi Builtin.Str.strSub
  by_cases ha : a = 65
  · by_cases hb : b = 65
    · by_cases hc : c = 65
      · by_cases hd : d = 65
        · simp [ha, hb, hc, hd, Str.length, List.takeWhile]
        · simp [ha, hb, hc, hd, Str.length, List.takeWhile]
      · simp [ha, hb, hc, Str.length, List.takeWhile]
    · simp [ha, hb, Str.length, List.takeWhile]
  · simp [ha, Str.length, List.takeWhile]
theorem join4 (a b c d : Nat) : Txt.join (Str.ofString "") [⟨#[a]⟩, ⟨#[b]⟩, ⟨#[c]⟩, ⟨#[d]⟩] = ⟨#[a, b, c, d]⟩ := by
  first | rfl | (unfold Txt.join; simp) | skip
  all_goals trace_state
end Mine
-- Wd0
namespace Mine
def apS (d : Int) : Str := ⟨#[65 + d.toNat]⟩
theorem item_ap {x : Int} (h0 : 0 ≤ x) (h1 : x < 16) : Txt.item (Str.ofString "ABCDEFGHIJKLMNOP") x = apS x := by
  refine lt16 (P := fun x => Txt.item (Str.ofString "ABCDEFGHIJKLMNOP") x = apS x) h0 h1 ?_
  refine ⟨?_, ?_, ?_, ?_, ?_, ?_, ?_, ?_, ?_, ?_, ?_, ?_, ?_, ?_, ?_, ?_⟩ <;> decide +kernel
theorem list4S {ys : List Value} {f : Nat → Str} (hl : ys.length = 4) (hy : ∀ i y, ys[i]? = some y → ∃ t, y = Value.str (f i) t) :
    ∃ t0 t1 t2 t3, ys = [.str (f 0) t0, .str (f 1) t1, .str (f 2) t2, .str (f 3) t3] := by
  match ys, hl with
  | [y0, y1, y2, y3], _ =>
    obtain ⟨t0, rfl⟩ := hy 0 y0 rfl
    obtain ⟨t1, rfl⟩ := hy 1 y1 rfl
    obtain ⟨t2, rfl⟩ := hy 2 y2 rfl
    obtain ⟨t3, rfl⟩ := hy 3 y3 rfl
    exact ⟨t0, t1, t2, t3, rfl⟩
/-- the figures to the base 16 -/
def dg (v : Int) (i : Nat) : Int := (v.fdiv (16 ^ (([3, 2, 1, 0] : List Int).getD i 0).toNat)).fmod 16
theorem dg_in (v : Int) (i : Nat) : 0 ≤ dg v i ∧ dg v i < 16 := by
  unfold dg
  rw [Int.fmod_eq_emod_of_nonneg _ (by decide)]
  omega
theorem nat65 {d : Int} (h0 : 0 ≤ d) : (65 + d.toNat ≠ 65) = (d ≠ 0) := by
  apply propext; constructor <;> intro h <;> omega
theorem getMethod_encode {M : Model} {A : Around} {E : Value → Shared → Prop} {s : Shared} {x : Str} {t : Tok} {pl : Sem Bool} {Q : Value × List Value → Shared → Prop}
    (h : Q (.builtin "str.encode", [.str x t]) s) : wpAny M A (getMethod (.str x t) (Str.ofString "encode") pl) Q E s := by
  exact GM.of (.str x t) (typeIs_str _ _ _) F.slot_str_encode F.type_str_encode GM.noRef h
local macro_rules | `(tactic| k_all) => `(tactic| assumption)
theorem c_word (w : World) (mean : ExcName → Option Value) (mg mb : Str → Option Value) (news : List (Addr × Obj)) (v : Int) (t : Tok) (hv0 : 0 ≤ v) (hv1 : v < 1048576) :
    Cl w mean mg mb 90 news [.int v t] (fun t => .bytes (wordOf (dg v 0) (dg v 1) (dg v 2) (dg v 3)) t) := by
  dsimp only [Cl]
  k_fill
  intros; rename_i hret
  refine wpAny_call ?_
  k_dflt (refine' code_defC ?k1 ?k2 ?k3 ?k4 ?k5 ?kA ?kF ?kK ?k6 ?k7 ?k8 ?k9 ?kB ?kD ?_ ?c2 ?c3 ?c4; (case kA => exact rfl); (case kF => exact rfl); (case kK => assumption); (case k1 => k_asm); (case k2 => k_asm); (case k3 => k_asm); (case k4 => k_asm); (case k5 => k_asm); (case k6 => k_is); (case k7 => k_is); (case k8 => ktr_room); (case k9 => exact BindsTo.of_eq rfl); (case kB => exact rfl); (case kD => decide +kernel); (case c2 => exact rfl); (case c3 => exact rfl); (case c4 => exact rfl); k_whole; intro g' L' h' tk' cells' FG' F' N' Y' B' X' T' l1; (try k_lt l1); k_cells Y'; (try simp only [List.cons_append, List.nil_append] at N'); (try dsimp only); (try k_lift B'); (try k_fold))
  repeat' ((fail_if_success (with_reducible show wpAny _ _ (exec (Stmt.Assign _ (Expr.ListComp _ _ _ _) _) _) _ _ _)); first | (k_unfold; (try dsimp only)) | (k_end; kc_close) | walk1 | (dsimp only; walk1) | fail "no step")
  (with_reducible rename Fr _ _ _ _ => F)
  k_dflt (refine LCg.Assign_ListComp_U (F₀ := F) (by rfl) (by with_unfolding_all rfl) (by with_unfolding_all rfl) (by decide) (by rfl) (by decide) (by rfl) (by rfl) (by rfl) ?_)
  repeat' ((fail_if_success (with_reducible show LCg.CompSrc _ _ _ _ _ _ _ _ _ _ _ _ _ _)); first | (k_unfold; (try dsimp only)) | walk1 | (dsimp only; walk1) | fail "no step")
  refine LCg.CompSrc.ledger (by rfl) (by k_asm) (by k_asm) (by k_mem) (by rw [PySem.sizeLine_eq]; simp) ?_
  intro gg
  refine compAll (fun i y => ∃ t, y = Value.str (Txt.item (Str.ofString "ABCDEFGHIJKLMNOP") (dg v i)) t) ?turn1 ?fin1
  case turn1 =>
    intro i x I oI C oC D m₂ ys h tk E' hi hP hC hx F N off ne
    have hi' : i = 0 ∨ i = 1 ∨ i = 2 ∨ i = 3 := by
      have : i < 4 := hi
      omega
    rcases hi' with e | e | e | e <;> subst e <;> simp only [List.getElem?_toArray, List.getElem?_cons_zero, List.getElem?_cons_succ, Option.some.injEq] at hP <;> subst hP
    all_goals (k_steps; exact ⟨_, _, _, rfl, F, N, off, .inr ⟨_, List.mem_cons_self .., rfl, _, rfl⟩, rfl, _, rfl⟩)
  case fin1 =>
    intro ys hl hy
    intro D h tk F N off
    obtain ⟨t0, t1, t2, t3, rfl⟩ := list4S hl hy
    have d0 := dg_in v 0
    have d1 := dg_in v 1
    have d2 := dg_in v 2
    have d3 := dg_in v 3
    rw [item_ap d0.1 d0.2, item_ap d1.1 d1.2, item_ap d2.1 d2.2, item_ap d3.1 d3.2] at N
    clear hl hy
    k_steps
    refine join_listW (News.isList N (List.mem_cons_self ..)) (.cons _ _ (.cons _ _ (.cons _ _ (.cons _ _ .nil)))) (by decide) (by show _ ≤ _; simp [apS, Str.length]) ?_
    intro t' k
    unfold apS
    rw [join4]
    k_steps
    rw [lstripA]
    refine getMethod_encode ?_
    repeat' ((fail_if_success (with_reducible show wpAny _ _ (call (Value.builtin "str.encode") _) _ _ _)); first | (k_unfold; (try dsimp only)) | walk1 | (dsimp only; walk1) | fail "no step")
    by_cases e0 : dg v 0 ≠ 0
    · rw [if_pos (show 65 + (dg v 0).toNat ≠ 65 by omega)]
      refine encode_ascii (enc4 _ _ _ _ _ (by omega) (by omega) (by omega) (by omega)) (by rw [sizeLine_eq]; simp) ?_
      intro t' k
      k_steps
      refine ret_bytes hret (by unfold wordOf; rw [if_pos e0]; rfl) (by k_asm) (by first | k_asm | (refine' cb_drop ?cbN ?cbS; (case cbN => assumption); (case cbS => kcj_all)))
    · rw [if_neg (show ¬ (65 + (dg v 0).toNat ≠ 65) by omega)]
      by_cases e1 : dg v 1 ≠ 0
      · rw [if_pos (show 65 + (dg v 1).toNat ≠ 65 by omega)]
        refine encode_ascii (enc3 _ _ _ _ (by omega) (by omega) (by omega)) (by rw [sizeLine_eq]; simp) ?_
        intro t' k
        k_steps
        refine ret_bytes hret (by unfold wordOf; rw [if_neg e0, if_pos e1]; rfl) (by k_asm) (by first | k_asm | (refine' cb_drop ?cbN ?cbS; (case cbN => assumption); (case cbS => kcj_all)))
      · rw [if_neg (show ¬ (65 + (dg v 1).toNat ≠ 65) by omega)]
        by_cases e2 : dg v 2 ≠ 0
        · rw [if_pos (show 65 + (dg v 2).toNat ≠ 65 by omega)]
          refine encode_ascii (enc2 _ _ _ (by omega) (by omega)) (by rw [sizeLine_eq]; simp) ?_
          intro t' k
          k_steps
          refine ret_bytes hret (by unfold wordOf; rw [if_neg e0, if_neg e1, if_pos e2]; rfl) (by k_asm) (by first | k_asm | (refine' cb_drop ?cbN ?cbS; (case cbN => assumption); (case cbS => kcj_all)))
        · rw [if_neg (show ¬ (65 + (dg v 2).toNat ≠ 65) by omega)]
          by_cases e3 : dg v 3 ≠ 0
          · rw [if_pos (show 65 + (dg v 3).toNat ≠ 65 by omega)]
            refine encode_ascii (enc1 _ _ (by omega)) (by rw [sizeLine_eq]; simp) ?_
            intro t' k
            k_steps
            refine ret_bytes hret (by unfold wordOf; rw [if_neg e0, if_neg e1, if_neg e2, if_pos e3]; rfl) (by k_asm) (by first | k_asm | (refine' cb_drop ?cbN ?cbS; (case cbN => assumption); (case cbS => kcj_all)))
          · rw [if_neg (show ¬ (65 + (dg v 3).toNat ≠ 65) by omega)]
            refine encode_ascii (enc0 _) (by rw [sizeLine_eq]; simp) ?_
            intro t' k
            k_steps
            refine ret_bytes hret (by unfold wordOf; rw [if_neg e0, if_neg e1, if_neg e2, if_neg e3]) (by k_asm) (by first | k_asm | (refine' cb_drop ?cbN ?cbS; (case cbN => assumption); (case cbS => kcj_all)))
end Mine
-- Bc0
namespace Mine
section
variable {prog : Program} {w : World} {A : Around} {E : Value → Shared → Prop} {s : Shared} {env : Env} {h₀ : Heap} {L : Addr} {m : Str → Option Value}
theorem bytesComp {elt iter : Expr} {x : Str} {px : Pos} {scope : Scope} {cl : List (Str × Addr)} {pos : Pos} {Q : Value → Shared → Prop} (_F₀ : Fr h₀ L s.heap m)
    (hclos : closureFor scope env = pure cl) (hcell : ∀ y ∈ scope.names, y.2 ≠ .cell) (hkind : scope.kind = .function)
    (hnames : ∀ y ∈ scope.names, y.2 = .local → scope.names.lookup y.1 = some .local) (hx : scope.names.lookup x = some .local)
    (h : wpAny (model prog w) A (eval iter env) (fun xv s₁ => ∃ (b : Array UInt8) (t : Tok) (news : List (Addr × Obj)), xv = .bytes b t ∧ A.handled = none ∧ Fr h₀ L s₁.heap m ∧ News h₀ L s₁.heap news ∧ b.size ≤ sizeLine ∧
      ∀ g, LCg.CompRest prog w A h₀ L m env elt x scope cl { s₁ with heap := g } (fun _ => True) (fun i v => ∃ c t, b[i]? = some c ∧ v = .int (c.toNat : Int) t) (LCg.FinE h₀ L m { s₁ with heap := g } Q) b.size 0 [] news) E s)
    (hs : ∀ x, foldedSetIterable iter env x = pure x := by intro _; rfl) :
    wpAny (model prog w) A (eval (.ListComp elt [⟨.Name x px, iter, [], 0⟩] scope pos) env) Q E s := by
  rw [eval_ListComp]
  refine wpAny_comprehension_free (use := none) rfl hs hclos hkind hnames (wpAny_mono h (fun xv s₁ h₁ => ?_) fun _ _ e => e)
  obtain ⟨b, t, news, rfl, hh, F, N, hsz, R⟩ := h₁
  refine KBw.pyIter_bytes ?_
  refine LCg.block_U (KBw.walks hh s₁.heap.objs.size b t) hsz (fun i h st => ?_) (S := fun _ => True) (fun i h h' o nw st e e' _ _ _ => ?_) hcell hkind hx ?_ (fun b hb => ?_)
    (F.keeps fun _ _ e => Heap.get?_push_of_some _ e) (N.grown fun _ _ e => Heap.get?_push_of_some _ e) (Nat.ne_of_lt F.ns.lt) (next_is_new F) (fun p hp => Nat.ne_of_lt (Heap.lt_size (N p hp).1)) trivial (R _) ?_
  · obtain ⟨o, ho, _⟩ := st
    exact ⟨o, ho⟩
  · obtain ⟨o', q, r⟩ := st
    rw [e] at q
    cases q
    exact ⟨o, e', r⟩
  · exact ⟨_, Heap.get?_push_size _ rfl, rfl, rfl⟩
  · rw [List.mem_singleton.mp hb]
    show s₁.heap.objs.size < (s₁.heap.push _).objs.size
    rw [Heap.size_push]; exact Nat.lt_succ_self _
  · intro D C h tk m' ys news' F' N' o1 hn hC₀ hD₀ hCL hDL hCD offC fin
    refine ⟨m', hn, fun h'' hs'' => fin D h'' tk (F'.change hs'' hCL hC₀) (fun p hp => ?_) o1⟩
    refine ⟨hs''.extBut _ _ ?_ (N' p hp).1, (N' p hp).2⟩
    rcases List.mem_cons.mp hp with rfl | hp
    · exact Ne.symm hCD
    · exact offC p hp
end
end Mine
-- Lg0
namespace Mine
theorem word_size (d3 d2 d1 d0 : Int) : (wordOf d3 d2 d1 d0).size ≤ 4 := by
  unfold wordOf
  split
  · simp
  · split
    · simp
    · split
      · simp
      · split <;> simp
theorem pad4 (d3 d2 d1 d0 : Int) : KBy.picked #[65, 65, 65, 65] (some (((KBw.bInts (wordOf d3 d2 d1 d0)).length : Nat) : Int)) none ++ wordOf d3 d2 d1 d0 = #[chr8 d3, chr8 d2, chr8 d1, chr8 d0] := by
  rw [KBw.ints_length]
  unfold wordOf
  by_cases e3 : d3 = 0
  · by_cases e2 : d2 = 0
    · by_cases e1 : d1 = 0
      · by_cases e0 : d0 = 0
        · subst e3 e2 e1 e0; decide +kernel
        · simp only [e3, e2, e1, e0, ne_eq, not_true_eq_false, not_false_eq_true, if_true, if_false]
          rw [show (KBy.picked #[65, 65, 65, 65] (some (((#[chr8 d0] : Array UInt8).size : Nat) : Int)) none) = #[65, 65, 65] from by show KBy.picked #[65, 65, 65, 65] (some 1) none = _; decide +kernel]
          rfl
      · simp only [e3, e2, e1, ne_eq, not_true_eq_false, not_false_eq_true, if_true, if_false]
        rw [show (KBy.picked #[65, 65, 65, 65] (some (((#[chr8 d1, chr8 d0] : Array UInt8).size : Nat) : Int)) none) = #[65, 65] from by show KBy.picked #[65, 65, 65, 65] (some 2) none = _; decide +kernel]
        rfl
    · simp only [e3, e2, ne_eq, not_true_eq_false, not_false_eq_true, if_true, if_false]
      rw [show (KBy.picked #[65, 65, 65, 65] (some (((#[chr8 d2, chr8 d1, chr8 d0] : Array UInt8).size : Nat) : Int)) none) = #[65] from by show KBy.picked #[65, 65, 65, 65] (some 3) none = _; decide +kernel]
      rfl
  · simp only [e3, ne_eq, not_false_eq_true, if_true]
    rw [show (KBy.picked #[65, 65, 65, 65] (some (((#[chr8 d3, chr8 d2, chr8 d1, chr8 d0] : Array UInt8).size : Nat) : Int)) none) = #[] from by show KBy.picked #[65, 65, 65, 65] (some 4) none = _; decide +kernel]
    rfl
theorem chr8_nat {d : Int} (h : 0 ≤ d ∧ d < 16) : ((chr8 d).toNat : Int) = 65 + d := by
  unfold chr8
  rw [UInt8.toNat_ofNat']
  omega
theorem itemAt {prog : Program} {w : World} {A : Around} {E : Value → Shared → Prop} {s : Shared} {value slice : PySem.Expr} {l : Addr} {vs : List Value} {k : Int} {u : Tok} {v : Value} {Q : Value → Shared → Prop}
    (hl : s.heap.IsList l vs.toArray) (h0 : 0 ≤ k) (hhi : k < 2 ^ 63) (hx : vs[k.toNat]? = some v) (h : Q v s)
    (hs : subscripted slice false (.ref l) (.int k u) = operate [.ref l, .int k u] (getItem (.ref l) (.int k u)) := by with_unfolding_all rfl) :
    wpAny (model prog w) A (subscriptTail value slice (.ref l) (.int k u)) Q E s :=
  tail_any hl.typeIs slot_list_getitem.lookup (wpAny_getItem_list hl h0 hhi (by simpa using hx) h) hs
theorem tab_at {third : Str} {xs : List Value} (hl : xs.length = 16) (hx : ∀ (i : Nat) (y : Value), xs[i]? = some y → ∃ t, y = Value.str (tabS third i) t) {d : Int} (h : 0 ≤ d ∧ d < 16) :
    ∃ t, xs[d.toNat]? = some (Value.str (tabS third d) t) := by
  have hlt : d.toNat < xs.length := by omega
  obtain ⟨t, e⟩ := hx d.toNat xs[d.toNat] (by simp [hlt])
  refine ⟨t, ?_⟩
  rw [List.getElem?_eq_getElem hlt, e, Int.toNat_of_nonneg h.1]
theorem list4I {ys : List Value} {f : Nat → Int} (hl : ys.length = 4) (hy : ∀ i y, ys[i]? = some y → ∃ t, y = Value.int (f i) t) :
    ∃ t0 t1 t2 t3, ys = [.int (f 0) t0, .int (f 1) t1, .int (f 2) t2, .int (f 3) t3] := by
  match ys, hl with
  | [y0, y1, y2, y3], _ =>
    obtain ⟨t0, rfl⟩ := hy 0 y0 rfl
    obtain ⟨t1, rfl⟩ := hy 1 y1 rfl
    obtain ⟨t2, rfl⟩ := hy 2 y2 rfl
    obtain ⟨t3, rfl⟩ := hy 3 y3 rfl
    exact ⟨t0, t1, t2, t3, rfl⟩
def listS (d3 d2 d1 d0 : Int) : Str := Txt.item (Str.ofString "?pc?d?b?-?l?s???") d3 ++ tabS (Str.ofString "-xSs") d2 ++ tabS (Str.ofString "-xSs") d1 ++ tabS (Str.ofString "-xTt") d0
theorem c_list (w : World) (mean : ExcName → Option Value) (mg mb : Str → Option Value) (news : List (Addr × Obj)) (d3 d2 d1 d0 : Int) (t : Tok) (lt ll : Addr) (xs ys : List Value)
    (h3 : 0 ≤ d3 ∧ d3 < 16) (h2 : 0 ≤ d2 ∧ d2 < 16) (h1 : 0 ≤ d1 ∧ d1 < 16) (h0 : 0 ≤ d0 ∧ d0 < 16) (hlt : (lt, LCg.lst xs) ∈ news) (hll : (ll, LCg.lst ys) ∈ news)
    (hxl : xs.length = 16) (hyl : ys.length = 16) (hx : ∀ (i : Nat) (y : Value), xs[i]? = some y → ∃ t, y = Value.str (tabS (Str.ofString "-xSs") i) t) (hy : ∀ (i : Nat) (y : Value), ys[i]? = some y → ∃ t, y = Value.str (tabS (Str.ofString "-xTt") i) t) :
    Cl w mean mg mb 95 news [.bytes (wordOf d3 d2 d1 d0) t, .ref lt, .ref ll] (fun t => .str (listS d3 d2 d1 d0) t) := by
  dsimp only [Cl]
  k_fill
  intros; rename_i hret
  refine wpAny_call ?_
  k_dflt cell_enter
  repeat' ((fail_if_success (with_reducible show wpAny _ _ (eval (Expr.ListComp _ _ _ _) _) _ _ _)); first | (k_unfold; (try dsimp only)) | (k_end; kc_close) | walk1 | (dsimp only; walk1) | fail "no step")
  (with_reducible rename Fr _ _ _ _ => F)
  k_dflt (refine bytesComp F (by with_unfolding_all rfl) (by decide) (by rfl) (by decide) (by rfl) ?_)
  repeat' ((fail_if_success (with_reducible show Exists _)); first | (k_unfold; (try dsimp only)) | walk1 | (dsimp only; walk1) | fail "no step")
  refine KBw.len_K rfl (by rw [KBw.ints_length]; have := word_size d3 d2 d1 d0; omega) ?_
  repeat' ((fail_if_success (with_reducible show wpAny _ _ (subscriptTail _ _ _ _) _ _ _)); first | (k_unfold; (try dsimp only)) | walk1 | (dsimp only; walk1) | fail "no step")
  try dsimp only
  (with_reducible rename Fr _ _ _ _ => F)
  (with_reducible rename News _ _ _ _ => N)
  refine KBc.slice_K (s := ⟨_, _, _, _, _⟩) F N rfl (IsPart.int _ _) IsPart.none (by decide) ?_
  intro h5 t5 k5 F N _
  repeat' ((fail_if_success (with_reducible show wpAny _ _ (binaryOp _ _ _) _ _ _)); first | (k_unfold; (try dsimp only)) | walk1 | (dsimp only; walk1) | fail "no step")
  refine KBy.add_bytes (by have := word_size d3 d2 d1 d0; have := KBc.size_picked_le #[65, 65, 65, 65] (some (((KBw.bInts (wordOf d3 d2 d1 d0)).length : Nat) : Int)) none; simp at this; omega) ?_
  intro t6 k6
  rw [pad4]
  refine ⟨_, _, _, rfl, rfl, F, N, by rw [sizeLine_eq]; simp, fun gg => ?_⟩
  refine compAll (fun i y => ∃ t, y = Value.int ([d3, d2, d1, d0].getD i 0) t) ?turn1 ?fin1
  case turn1 =>
    intro i x I oI C oC D m₂ ys h tk E' hi hP hC hx F N off ne
    obtain ⟨c, tc, hc, rfl⟩ := hP
    have hi' : i = 0 ∨ i = 1 ∨ i = 2 ∨ i = 3 := by
      have : i < 4 := hi
      omega
    rcases hi' with e | e | e | e <;> subst e <;> simp only [List.getElem?_toArray, List.getElem?_cons_zero, List.getElem?_cons_succ, Option.some.injEq] at hc <;> subst hc
    · rw [chr8_nat h3] at hx
      k_steps
      exact ⟨_, _, _, rfl, F, N, off, trivial, rfl, _, congrArg (fun z => Value.int z _) (by show 65 + d3 - 65 = d3; omega)⟩
    · rw [chr8_nat h2] at hx
      k_steps
      exact ⟨_, _, _, rfl, F, N, off, trivial, rfl, _, congrArg (fun z => Value.int z _) (by show 65 + d2 - 65 = d2; omega)⟩
    · rw [chr8_nat h1] at hx
      k_steps
      exact ⟨_, _, _, rfl, F, N, off, trivial, rfl, _, congrArg (fun z => Value.int z _) (by show 65 + d1 - 65 = d1; omega)⟩
    · rw [chr8_nat h0] at hx
      k_steps
      exact ⟨_, _, _, rfl, F, N, off, trivial, rfl, _, congrArg (fun z => Value.int z _) (by show 65 + d0 - 65 = d0; omega)⟩
  case fin1 =>
    intro zs hzl hzy D h tk F N off
    obtain ⟨t0, t1, t2, t3, rfl⟩ := list4I hzl hzy
    have N : News _ _ _ ((D, W.listOf #[.int d3 t0, .int d2 t1, .int d1 t2, .int d0 t3] 4) :: news) := N
    obtain ⟨ta, hxa⟩ := tab_at hxl hx h2
    obtain ⟨tb, hxb⟩ := tab_at hxl hx h1
    obtain ⟨tc, hxc⟩ := tab_at hyl hy h0
    clear hzl hzy hx hy
    repeat' ((fail_if_success (with_reducible show wpAny _ _ (subscriptTail _ _ (Value.ref _) (Value.int _ _)) _ _ _)); first | (k_unfold; (try dsimp only)) | walk1 | (dsimp only; walk1) | fail "no step")
    (with_reducible rename News _ _ _ _ => N)
    refine itemAt (News.isList N (List.mem_cons_of_mem _ hlt)) h2.1 (by omega) hxa ?_
    repeat' ((fail_if_success (with_reducible show wpAny _ _ (subscriptTail _ _ (Value.ref _) (Value.int _ _)) _ _ _)); first | (k_unfold; (try dsimp only)) | walk1 | (dsimp only; walk1) | fail "no step")
    (with_reducible rename News _ _ _ _ => N)
    refine itemAt (News.isList N (List.mem_cons_of_mem _ hlt)) h1.1 (by omega) hxb ?_
    repeat' ((fail_if_success (with_reducible show wpAny _ _ (subscriptTail _ _ (Value.ref _) (Value.int _ _)) _ _ _)); first | (k_unfold; (try dsimp only)) | walk1 | (dsimp only; walk1) | fail "no step")
    (with_reducible rename News _ _ _ _ => N)
    refine itemAt (News.isList N (List.mem_cons_of_mem _ hll)) h0.1 (by omega) hxc ?_
    k_steps
    exact hret _ _ _ (by k_asm) (by first | k_asm | (refine' cb_drop ?cbN ?cbS; (case cbN => assumption); (case cbS => kcj_all)))
end Mine
-- Lp0
namespace Mine
def SameEnd (h₀ : Heap) (L : Addr) (rest : List (Addr × Obj)) (J : (Str → Option Value) → Prop) (s₁ s₂ : Shared) : Prop :=
  ∃ h' tk m', s₂ = { s₁ with heap := h', toks := tk } ∧ Fr h₀ L h' m' ∧ News h₀ L h' rest ∧ J m'
def SamePost (h₀ : Heap) (L : Addr) (rest : List (Addr × Obj)) (J : (Str → Option Value) → Prop) (s₁ : Shared) (Q : Flow → Shared → Prop) (f : Flow) (s₂ : Shared) : Prop :=
  match f with
  | .ret v => Q (.ret v) s₂
  | .brk => Q .next s₂
  | _ => SameEnd h₀ L rest J s₁ s₂
section
variable {prog : Program} {w : World} {A : Around} {E : Value → Shared → Prop} {s : Shared} {env : Env} {h₀ : Heap} {body : List Stmt} {Q : Flow → Shared → Prop}

theorem walkFor {x : Str} {px : Pos} {I : Addr} {fp : List Addr} {n : Nat} {P : Nat → Value → Prop} {St : Nat → Heap → Prop} {m₀ : Str → Option Value} {news : List (Addr × Obj)} {hp : Heap} (J : Nat → (Str → Option Value) → Prop)
    (W : Walks prog w A I fp [I] n P St) (hIo : ∀ i h, St i h → ∃ o, h.get? I = some o)
    (hSt : ∀ i h h' o, St i h → h.get? I = some o → h'.get? I = some o → (∀ b o, h₀.get? b = some o → h'.get? b = some o) → News h₀ env.locals h' news → St i h')
    (hst : St 0 hp) (hIL : env.locals ≠ I) (hI₀ : h₀.get? I = none) (off : ∀ p ∈ news, p.1 ≠ I) (F : Fr h₀ env.locals hp m₀) (N : News h₀ env.locals hp news) (hJ : J 0 m₀)
    (hE : PassesOwn (model prog w) A env E)
    (turn : ∀ (i : Nat) (v : Value) (m₁ : Str → Option Value) (h : Heap) (tk : Nat) (rest : List (Addr × Obj)), i < n → P i v → J i m₁ → (∀ p ∈ news, p ∈ rest) → Fr h₀ env.locals h m₁ → News h₀ env.locals h rest →
      wpAny (model prog w) A (assign (.Name x px) env v) (fun _ s₂ => wpAny (model prog w) A (execs body env) (SamePost h₀ env.locals rest (J (i + 1)) { s with heap := h, toks := tk } Q) E s₂) E { s with heap := h, toks := tk })
    (done : ∀ m₁ h tk, J n m₁ → Fr h₀ env.locals h m₁ → News h₀ env.locals h news → Q .next { s with heap := h, toks := tk }) :
    codeAny (model prog w) A (.forLoop (.Name x px) (.ref I) body [] env) (fun r s' => match r with | .ok f => Q f s' | .error e => cameBackBy (model prog w) A env E e s') { s with heap := hp } := by
  refine codeAny_forLoop_any (fun k s' => ∃ h' tk m' i, s' = { s with heap := h', toks := tk } ∧ St i h' ∧ Fr h₀ env.locals h' m' ∧ News h₀ env.locals h' news ∧ J i m' ∧ i ≤ n ∧ k = n + 1 - i) ?_ (n + 1)
    ⟨_, s.toks, m₀, 0, rfl, hst, F, N, hJ, Nat.zero_le _, rfl⟩
  rintro k s' ⟨h', tk, m', i, rfl, hit, F', N', hj, hi, rfl⟩
  by_cases hlt' : i < n
  · refine W.item i _ _ _ hlt' hit fun v h₁ tk₁ hPv hst₁ hk₁ => ?_
    refine wpAny_pure ?_
    have F₁ := LCg.fr_but F' hk₁ hIL hI₀
    have N₁ := LCg.news_but N' hk₁ off
    obtain ⟨oi, hoi⟩ := hIo _ _ hst₁
    refine wpAny_mono (turn i v m' h₁ tk₁ ((I, oi) :: news) hlt' hPv hj (fun p hp => List.mem_cons_of_mem _ hp) F₁ ?_) (fun _ s₂ h₂ => wpAny_mono (wpAny_passesOwn hE h₂) (fun f s₃ p => ?_) fun _ _ e => e) hE
    · intro p hp
      rcases List.mem_cons.mp hp with rfl | hp
      · exact ⟨hoi, Ne.symm hIL, hI₀⟩
      · exact N₁ p hp
    · have fin : SameEnd h₀ env.locals ((I, oi) :: news) (J (i + 1)) { s with heap := h₁, toks := tk₁ } s₃ →
          ∃ m, m < n + 1 - i ∧ ∃ h' tk m' i, s₃ = { s with heap := h', toks := tk } ∧ St i h' ∧ Fr h₀ env.locals h' m' ∧ News h₀ env.locals h' news ∧ J i m' ∧ i ≤ n ∧ m = n + 1 - i := by
        rintro ⟨hq, tk₂, m₂, e, F₂, N₂, hj₂⟩
        have N₃ : News h₀ env.locals hq news := fun p hp => N₂ p (List.mem_cons_of_mem _ hp)
        exact ⟨n + 1 - (i + 1), by omega, hq, tk₂, m₂, i + 1, e, hSt _ _ _ _ hst₁ hoi (N₂ _ (List.mem_cons_self ..)).1 F₂.keep N₃, F₂, N₃, hj₂, hlt', rfl⟩
      cases f with
      | ret v => exact p
      | brk => exact p
      | next => exact fin p
      | cont => exact fin p
  · have hin : i = n := by omega
    subst hin
    refine W.done _ _ _ hit fun h₁ tk₁ hk₁ => ?_
    exact wpAny_execs_nil (done m' h₁ tk₁ hj (LCg.fr_but F' hk₁ hIL hI₀) (LCg.news_but N' hk₁ off))

theorem listFor {x : Str} {px : Pos} {ax : Addr} {lo : Obj} {vs : List Value} {n : Nat} {m₀ : Str → Option Value} {news : List (Addr × Obj)} (J : Nat → (Str → Option Value) → Prop)
    (hh : A.handled = none) (F : Fr h₀ env.locals s.heap m₀) (N : News h₀ env.locals s.heap news) (hm : (ax, lo) ∈ news) (hc : lo.cls = .type "list") (hd : lo.data = .seq vs.toArray n) (hJ : J 0 m₀)
    (hE : PassesOwn (model prog w) A env E)
    (turn : ∀ (i : Nat) (v : Value) (m₁ : Str → Option Value) (h : Heap) (tk : Nat) (rest : List (Addr × Obj)), i < vs.toArray.size → vs.toArray[i]? = some v → J i m₁ → (∀ p ∈ news, p ∈ rest) → Fr h₀ env.locals h m₁ → News h₀ env.locals h rest →
      wpAny (model prog w) A (assign (.Name x px) env v) (fun _ s₂ => wpAny (model prog w) A (execs body env) (SamePost h₀ env.locals rest (J (i + 1)) { s with heap := h, toks := tk } Q) E s₂) E { s with heap := h, toks := tk })
    (done : ∀ m₁ h tk, J vs.toArray.size m₁ → Fr h₀ env.locals h m₁ → News h₀ env.locals h news → Q .next { s with heap := h, toks := tk }) :
    wpAny (model prog w) A (pyIter (.ref ax)) (fun it s₂ => codeAny (model prog w) A (.forLoop (.Name x px) it body [] env) (fun r s' => match r with | .ok f => Q f s' | .error e => cameBackBy (model prog w) A env E e s') s₂) E s := by
  have hax := N _ hm
  have hl : s.heap.IsList ax vs.toArray := ⟨lo, hax.1, hc, n, hd⟩
  have hlt : ax < s.heap.objs.size := Heap.lt_size hax.1
  refine wpAny_pyIter_list hl ?_
  refine walkFor J (Walks.list hh s.heap.objs.size ax (Nat.ne_of_lt hlt) vs.toArray) (fun i h st => ?_) (fun i h h' o st e e' hk N' => ?_) ?_ (Nat.ne_of_lt F.ns.lt) (next_is_new F) (fun p hp => Nat.ne_of_lt (Heap.lt_size (N p hp).1)) (F.push _) (fun p hp => ⟨Heap.get?_push_of_some _ (N p hp).1, (N p hp).2⟩) hJ hE turn done
  · obtain ⟨o, e, _⟩ := st.1; exact ⟨o, e⟩
  · exact ⟨by obtain ⟨o', q, r⟩ := st.1; rw [e] at q; cases q; exact ⟨o, e', r⟩, ⟨lo, (N' _ hm).1, hc, n, hd⟩⟩
  · exact ⟨⟨_, Heap.get?_push_size _ rfl, rfl, rfl⟩, hl.push _⟩

theorem rangeFor {x : Str} {px : Pos} {r : Addr} {a b : Int} {t u v : Tok} {n : Nat} {m₀ : Str → Option Value} {news : List (Addr × Obj)} (J : Nat → (Str → Option Value) → Prop)
    (hh : A.handled = none) (F : Fr h₀ env.locals s.heap m₀) (N : News h₀ env.locals s.heap news) (hr : IsRange s.heap r a b 1 t u v) (hsm : Builtin.Range.small a b 1 = true) (hn : Builtin.Range.rangeSize a b 1 = ((n : Nat) : Int)) (hJ : J 0 m₀)
    (hE : PassesOwn (model prog w) A env E)
    (turn : ∀ (i : Nat) (v : Value) (m₁ : Str → Option Value) (h : Heap) (tk : Nat) (rest : List (Addr × Obj)), i < n → (∃ t, v = .int (a + (i : Int)) t) → J i m₁ → (∀ p ∈ news, p ∈ rest) → Fr h₀ env.locals h m₁ → News h₀ env.locals h rest →
      wpAny (model prog w) A (assign (.Name x px) env v) (fun _ s₂ => wpAny (model prog w) A (execs body env) (SamePost h₀ env.locals rest (J (i + 1)) { s with heap := h, toks := tk } Q) E s₂) E { s with heap := h, toks := tk })
    (done : ∀ m₁ h tk, J n m₁ → Fr h₀ env.locals h m₁ → News h₀ env.locals h news → Q .next { s with heap := h, toks := tk }) :
    wpAny (model prog w) A (pyIter (.ref r)) (fun it s₂ => codeAny (model prog w) A (.forLoop (.Name x px) it body [] env) (fun r s' => match r with | .ok f => Q f s' | .error e => cameBackBy (model prog w) A env E e s') s₂) E s := by
  refine wpAny_pyIter_range hr hsm ?_
  refine walkFor J (LCg.range_walks hh a n) (fun i h st => ⟨_, st⟩) (fun i h h' o st e e' hk N' => ?_) ?_ (Nat.ne_of_lt F.ns.lt) (next_is_new F) (fun p hp => Nat.ne_of_lt (Heap.lt_size (N p hp).1)) (F.push _) (fun p hp => ⟨Heap.get?_push_of_some _ (N p hp).1, (N p hp).2⟩) hJ hE turn done
  · have st' : h.get? s.heap.objs.size = some _ := st
    show h'.get? s.heap.objs.size = some _
    rw [e', ← e]; exact st'
  · show IsRangeIter _ _ _ _ _
    rw [hn]; simpa using Heap.get?_push_size _ rfl
end
end Mine
-- Lp1
namespace Mine
def ListMid (h₀ : Heap) (L : Addr) (m : Str → Option Value) (news : List (Addr × Obj)) (Z : Int → Prop) (s : Shared) (x : Value) (s₁ : Shared) : Prop :=
  ∃ (D : Addr) (lo : Obj) (vs : List Value) (ns : List Int) (n : Nat) (h : Heap) (tk : Nat) (nw : List (Addr × Obj)), x = .ref D ∧ s₁ = { s with heap := h, toks := tk } ∧ Fr h₀ L h m ∧ News h₀ L h nw ∧ (∀ p ∈ news, p ∈ nw) ∧
    (D, lo) ∈ nw ∧ lo.cls = .type "list" ∧ lo.data = .seq vs.toArray n ∧ IntsAre vs ns ∧ ∀ z ∈ ns, Z z
theorem cutList {prog : Program} {w : World} {A : Around} {E : Value → Shared → Prop} {s : Shared} {env : Env} {h₀ : Heap} {L : Addr} {m : Str → Option Value} {news : List (Addr × Obj)} {target iter : Expr} {body : List Stmt} {pos : Pos} {Q : Flow → Shared → Prop} (Z : Int → Prop)
    (_F : Fr h₀ L s.heap m) (_N : News h₀ L s.heap news)
    (h1 : wpAny (model prog w) A (eval iter env) (ListMid h₀ L m news Z s) E s)
    (h2 : ∀ (D : Addr) (lo : Obj) (vs : List Value) (ns : List Int) (n : Nat) (h : Heap) (tk : Nat) (nw : List (Addr × Obj)), Fr h₀ L h m → News h₀ L h nw → (∀ p ∈ news, p ∈ nw) → (D, lo) ∈ nw → lo.cls = .type "list" → lo.data = .seq vs.toArray n → IntsAre vs ns → (∀ z ∈ ns, Z z) →
      wpAny (model prog w) A (pyIter (.ref D)) (fun it s₂ => codeAny (model prog w) A (.forLoop target it body [] env) (fun r s' => match r with | .ok f => Q f s' | .error e => cameBackBy (model prog w) A env E e s') s₂) E { s with heap := h, toks := tk })
    (hs : ∀ x, foldedSetIterable iter env x = pure x := by intro _; rfl) :
    wpAny (model prog w) A (exec (.For target iter body [] pos) env) Q E s := by
  refine wpAny_For (wpAny_mono h1 (fun x s₁ hm => ?_) fun _ _ e => e) hs
  obtain ⟨D, lo, vs, ns, n, h, tk, nw, rfl, rfl, F, N, hsub, hD, hc, hd, hI, hZ⟩ := hm
  exact h2 D lo vs ns n h tk nw F N hsub hD hc hd hI hZ
end Mine
-- St0
namespace Mine
def shown2 (a b : Int) : Str := (PyData.list [.int a, .int b]).shown
theorem log2_lt {a : Int} (h0 : 0 ≤ a) (h1 : a < 1048576) : a.natAbs.log2 < 1920 := by
  have : a.natAbs < 2 ^ 20 := by
    have : a.natAbs < 1048576 := by omega
    exact this
  by_cases hz : a.natAbs = 0
  · rw [hz]; decide
  · have := (Nat.log2_lt hz).mpr this
    omega
theorem shown2_len {a b : Int} (ha : 0 ≤ a ∧ a < 1048576) (hb : 0 ≤ b ∧ b < 1048576) : (shown2 a b).length ≤ 100 := by
  have h1 : (toString a).length ≤ 9 := int_text_length_le10 (k := 8) (by decide) (by omega)
  have h2 : (toString b).length ≤ 9 := int_text_length_le10 (k := 8) (by decide) (by omega)
  have e1 := PySem.ofString_length (toString a)
  have e2 := PySem.ofString_length (toString b)
  unfold shown2
  simp only [PyData.shown, PyData.shownAll]
  generalize Str.ofString (toString a) = x at *
  generalize Str.ofString (toString b) = y at *
  unfold listText
  simp only [textFrom, Str.length_append]
  have f4 : (Str.ofString "").length = 0 := by decide +kernel
  have f1 : (Str.ofString "[").length = 1 := by decide +kernel
  have f2 : (Str.ofString "]").length = 1 := by decide +kernel
  have f3 : (Str.ofString ", ").length = 2 := by decide +kernel
  simp [Str.length_append]
  omega
theorem str_two {prog : Program} {w : World} {A : Around} {E : Value → Shared → Prop} {s : Shared} {h₀ : Heap} {L : Addr} {m : Str → Option Value} {news : List (Addr × Obj)} {l : Addr} {a b : Int} {t u : Tok} {n : Nat} {Q : Value → Shared → Prop}
    (F : Fr h₀ L s.heap m) (N : News h₀ L s.heap news) (hm : (l, W.listOf #[.int a t, .int b u] n) ∈ news) (ha : 0 ≤ a ∧ a < 1048576) (hb : 0 ≤ b ∧ b < 1048576) (hg : A.guards = some []) (hu : A.units + 5 < cLine)
    (h : ∀ h' u tk, Fr h₀ L h' m → News h₀ L h' news → Q (.str (shown2 a b) u) { s with heap := h', toks := tk }) : wpAny (model prog w) A (call (.type "str") [.ref l]) Q E s := by
  refine str_of_reads (d := .list [.int a, .int b]) (.list (N _ hm).1 rfl rfl (.cons (.int _ _) (.cons (.int _ _) .nil))) ?_ (fun e => by cases e) hg ?_ (fun _ _ e => e) (fun h' u tk hk => h h' u tk (F.keptAll hk) (N.grown hk)) ?_
  · simp [PyData.showable, PyData.showableAll, log2_lt ha.1 ha.2, log2_lt hb.1 hb.2]
  · show A.units + _ < cLine
    have : (PyData.list [.int a, .int b]).depth ≤ 2 := by simp [PyData.depth, PyData.depthAll]
    omega
  · have := shown2_len ha hb
    rw [sizeLine_eq]
    unfold shown2 at this
    omega
end Mine
-- Pl0
namespace Mine
theorem ones_eq (v : Int) : onesF v 0 = v / 8 % 2 ∧ onesF v 1 = v / 16 % 2 ∧ onesF v 2 = v / 32 % 2 ∧ onesF v 3 = v / 64 % 2 ∧ onesF v 4 = v / 256 % 2 ∧ onesF v 5 = v / 1024 % 2 ∧ onesF v 6 = v / 128 % 2 ∧ onesF v 7 = v / 512 % 2 := by
  unfold onesF
  refine ⟨?_, ?_, ?_, ?_, ?_, ?_, ?_, ?_⟩
  · show (v.fdiv 8).fmod 2 = _
    rw [Int.fdiv_eq_ediv_of_nonneg _ (by decide), Int.fmod_eq_emod_of_nonneg _ (by decide)]
  · show (v.fdiv 16).fmod 2 = _
    rw [Int.fdiv_eq_ediv_of_nonneg _ (by decide), Int.fmod_eq_emod_of_nonneg _ (by decide)]
  · show (v.fdiv 32).fmod 2 = _
    rw [Int.fdiv_eq_ediv_of_nonneg _ (by decide), Int.fmod_eq_emod_of_nonneg _ (by decide)]
  · show (v.fdiv 64).fmod 2 = _
    rw [Int.fdiv_eq_ediv_of_nonneg _ (by decide), Int.fmod_eq_emod_of_nonneg _ (by decide)]
  · show (v.fdiv 256).fmod 2 = _
    rw [Int.fdiv_eq_ediv_of_nonneg _ (by decide), Int.fmod_eq_emod_of_nonneg _ (by decide)]
  · show (v.fdiv 1024).fmod 2 = _
    rw [Int.fdiv_eq_ediv_of_nonneg _ (by decide), Int.fmod_eq_emod_of_nonneg _ (by decide)]
  · show (v.fdiv 128).fmod 2 = _
    rw [Int.fdiv_eq_ediv_of_nonneg _ (by decide), Int.fmod_eq_emod_of_nonneg _ (by decide)]
  · show (v.fdiv 512).fmod 2 = _
    rw [Int.fdiv_eq_ediv_of_nonneg _ (by decide), Int.fmod_eq_emod_of_nonneg _ (by decide)]
theorem nat_and_mode (n : Nat) : n &&& 4095 = n % 4096 := Nat.and_two_pow_sub_one_eq_mod n 12
theorem and_mode {r : Int} (h : 0 ≤ r) : Builtin.bitAnd r 4095 = r % 4096 := by
  unfold Builtin.bitAnd
  simp [h]
  rw [nat_and_mode]
  omega
end Mine
-- Pl1
namespace Mine
theorem tb_fmt (i : Nat) : (61440 : Nat).testBit i = (decide (12 ≤ i) && decide (i < 16)) := by
  by_cases h : i < 16
  · have : i = 0 ∨ i = 1 ∨ i = 2 ∨ i = 3 ∨ i = 4 ∨ i = 5 ∨ i = 6 ∨ i = 7 ∨ i = 8 ∨ i = 9 ∨ i = 10 ∨ i = 11 ∨ i = 12 ∨ i = 13 ∨ i = 14 ∨ i = 15 := by omega
    rcases this with e | e | e | e | e | e | e | e | e | e | e | e | e | e | e | e <;> subst e <;> decide
  · rw [Nat.testBit_lt_two_pow (Nat.lt_of_lt_of_le (show (61440 : Nat) < 2 ^ 16 by decide) (Nat.pow_le_pow_right (by decide) (Nat.not_lt.mp h)))]
    simp [h]
theorem nat_and_fmt (n : Nat) : n &&& 61440 = n / 4096 % 16 * 4096 := by
  apply Nat.eq_of_testBit_eq
  intro i
  rw [Nat.testBit_and, tb_fmt, show n / 4096 % 16 * 4096 = n / 2 ^ 12 % 2 ^ 4 * 2 ^ 12 from rfl, Nat.testBit_mul_two_pow, Nat.testBit_mod_two_pow, Nat.testBit_div_two_pow]
  by_cases h : 12 ≤ i
  · have e : 12 + (i - 12) = i := by omega
    have e' : i - 12 + 12 = i := by omega
    by_cases h2 : i < 16
    · have : i - 12 < 4 := by omega
      simp [h, h2, this, e, e']
    · have : ¬ (i - 12 < 4) := by omega
      simp [h, h2, this]
  · simp [h]
end Mine
-- Pl2
namespace Mine
/-- twelve bits and the rest -/
def mk12 (h b11 b10 b9 b8 b7 b6 b5 b4 b3 b2 b1 b0 : Int) : Int := h * 4096 + b11 * 2048 + b10 * 1024 + b9 * 512 + b8 * 256 + b7 * 128 + b6 * 64 + b5 * 32 + b4 * 16 + b3 * 8 + b2 * 4 + b1 * 2 + b0
def Bit (b : Int) : Prop := 0 ≤ b ∧ b ≤ 1
theorem mk12_at {h b11 b10 b9 b8 b7 b6 b5 b4 b3 b2 b1 b0 : Int} (c11 : Bit b11) (c10 : Bit b10) (c9 : Bit b9) (c8 : Bit b8) (c7 : Bit b7) (c6 : Bit b6) (c5 : Bit b5) (c4 : Bit b4) (c3 : Bit b3) (c2 : Bit b2) (c1 : Bit b1) (c0 : Bit b0) {X : Int} (e : X = mk12 h b11 b10 b9 b8 b7 b6 b5 b4 b3 b2 b1 b0) :
    X / 4096 = h ∧ X / 256 % 16 = 8 * b11 + 4 * b10 + 2 * b9 + b8 ∧ X / 16 % 16 = 8 * b7 + 4 * b6 + 2 * b5 + b4 ∧ X % 16 = 8 * b3 + 4 * b2 + 2 * b1 + b0 := by
  unfold mk12 at e
  unfold Bit at *
  refine ⟨?_, ?_, ?_, ?_⟩ <;> omega
theorem nib {y a b c d : Int} (ca : Bit a) (cb : Bit b) (cc : Bit c) (cd : Bit d) (e : y % 16 = 8 * a + 4 * b + 2 * c + d) : y % 2 = d ∧ y / 2 % 2 = c ∧ y / 4 % 2 = b ∧ y / 8 % 2 = a := by
  unfold Bit at *
  refine ⟨?_, ?_, ?_, ?_⟩ <;> omega
def oL (M : Int) : List Int := [onesF M 0, onesF M 1, onesF M 2, onesF M 3, onesF M 4, onesF M 5, onesF M 6, onesF M 7]
def rb (M : Int) (k i : Nat) : Int := (oL M).getD ((i + 16 - k) % 8) 0
theorem rb_bit (M : Int) (k i : Nat) : Bit (rb M k i) := by
  unfold rb
  have h : (i + 16 - k) % 8 < 8 := Nat.mod_lt _ (by decide)
  generalize (i + 16 - k) % 8 = j at *
  have : j = 0 ∨ j = 1 ∨ j = 2 ∨ j = 3 ∨ j = 4 ∨ j = 5 ∨ j = 6 ∨ j = 7 := by omega
  rcases this with e | e | e | e | e | e | e | e <;> subst e <;> exact ones_bit M _
theorem rb_step (M : Int) {k : Nat} (hk : k < 8) (i : Nat) : rb M (k + 1) (i + 1) = rb M k i := by
  unfold rb
  rw [show i + 1 + 16 - (k + 1) = i + 16 - k by omega]
theorem rb_wrap (M : Int) {k : Nat} (hk : k < 8) : rb M (k + 1) 0 = rb M k 7 := by
  unfold rb
  rw [show (0 + 16 - (k + 1)) % 8 = (7 + 16 - k) % 8 by omega]
theorem row_mk {M : Int} (h0 : 0 ≤ M) (k : Nat) : rowF M k = mk12 (M / 4096) (M / 2048 % 2) (rb M k 5) (rb M k 7) (rb M k 4) (rb M k 6) (rb M k 3) (rb M k 2) (rb M k 1) (rb M k 0) (M / 4 % 2) (M / 2 % 2) (M % 2) := by
  have hM : M = mk12 (M / 4096) (M / 2048 % 2) (onesF M 5) (onesF M 7) (onesF M 4) (onesF M 6) (onesF M 3) (onesF M 2) (onesF M 1) (onesF M 0) (M / 4 % 2) (M / 2 % 2) (M % 2) := by
    obtain ⟨e0, e1, e2, e3, e4, e5, e6, e7⟩ := ones_eq M
    rw [e0, e1, e2, e3, e4, e5, e6, e7]
    unfold mk12
    omega
  show rowO M (oL M) k = _
  unfold rowO
  show M - (onesF M 0 * 8 + (onesF M 1 * 16 + (onesF M 2 * 32 + (onesF M 3 * 64 + (onesF M 4 * 256 + (onesF M 5 * 1024 + (onesF M 6 * 128 + (onesF M 7 * 512 + 0)))))))) + (rb M k 0 * 8 + (rb M k 1 * 16 + (rb M k 2 * 32 + (rb M k 3 * 64 + (rb M k 4 * 256 + (rb M k 5 * 1024 + (rb M k 6 * 128 + (rb M k 7 * 512 + 0)))))))) = _
  unfold mk12 at *
  omega
theorem rowF_in {M : Int} (h0 : 0 ≤ M) (h1 : M < 1048576) (k : Nat) : 0 ≤ rowF M k ∧ rowF M k < 1048576 := by
  have e := row_mk h0 k
  have b0 := rb_bit M k 0
  have b1 := rb_bit M k 1
  have b2 := rb_bit M k 2
  have b3 := rb_bit M k 3
  have b4 := rb_bit M k 4
  have b5 := rb_bit M k 5
  have b6 := rb_bit M k 6
  have b7 := rb_bit M k 7
  have c0 : Bit (M % 2) := by unfold Bit; omega
  have c1 : Bit (M / 2 % 2) := by unfold Bit; omega
  have c2 : Bit (M / 4 % 2) := by unfold Bit; omega
  have c11 : Bit (M / 2048 % 2) := by unfold Bit; omega
  have hq : 0 ≤ M / 4096 ∧ M / 4096 < 256 := by omega
  generalize rb M k 0 = r0 at *
  generalize rb M k 1 = r1 at *
  generalize rb M k 2 = r2 at *
  generalize rb M k 3 = r3 at *
  generalize rb M k 4 = r4 at *
  generalize rb M k 5 = r5 at *
  generalize rb M k 6 = r6 at *
  generalize rb M k 7 = r7 at *
  generalize M % 2 = m0 at *
  generalize M / 2 % 2 = m1 at *
  generalize M / 4 % 2 = m2 at *
  generalize M / 2048 % 2 = m11 at *
  generalize M / 4096 = q at *
  generalize rowF M k = R at *
  clear h0 h1
  unfold mk12 at e
  unfold Bit at *
  omega
end Mine
-- Pl3
namespace Mine
theorem and_nat {v b : Int} (hv : 0 ≤ v) (hb : 0 ≤ b) : Builtin.bitAnd v b = ((v.toNat &&& b.toNat : Nat) : Int) := by
  unfold Builtin.bitAnd
  simp [hv, hb]
theorem and_bit (n i : Nat) : n &&& 2 ^ i = n / 2 ^ i % 2 * 2 ^ i := by
  apply Nat.eq_of_testBit_eq
  intro j
  rw [Nat.testBit_and, Nat.testBit_two_pow, Nat.testBit_mul_two_pow, show n / 2 ^ i % 2 = n / 2 ^ i % 2 ^ 1 from rfl, Nat.testBit_mod_two_pow, Nat.testBit_div_two_pow]
  by_cases h : i = j
  · subst h; simp
  · by_cases h2 : i ≤ j
    · have : ¬ (j - i < 1) := by omega
      simp [h, this]
    · simp [h, h2]
theorem and_two (n i j : Nat) : n &&& (2 ^ i ||| 2 ^ j) = (n / 2 ^ i % 2 * 2 ^ i) ||| (n / 2 ^ j % 2 * 2 ^ j) := by
  rw [Nat.and_or_distrib_left, and_bit, and_bit]
theorem and_fmt {r : Int} (h : 0 ≤ r) : Builtin.bitAnd r 61440 = r / 4096 % 16 * 4096 := by
  rw [and_nat h (by decide)]
  show ((r.toNat &&& 61440 : Nat) : Int) = _
  rw [nat_and_fmt]
  omega
end Mine
-- Pl4
namespace Mine
/-- a test of one bit -/
theorem cond_bit {idx v : Int} (hi : idx ≠ 0) (hv : 0 ≤ v) (i : Nat) : cond idx v ((2 ^ i : Nat) : Int) = decide (v / ((2 ^ i : Nat) : Int) % 2 = 1) := by
  unfold cond
  rw [if_neg hi, and_nat hv (Int.natCast_nonneg _), Int.toNat_natCast, and_bit]
  have hp : 0 < 2 ^ i := Nat.pow_pos (by decide)
  have e : (v / ((2 ^ i : Nat) : Int) % 2) = ((v.toNat / 2 ^ i % 2 : Nat) : Int) := by
    have : v = (v.toNat : Int) := by omega
    rw [this]; simp
  rw [e]
  have hb : v.toNat / 2 ^ i % 2 = 0 ∨ v.toNat / 2 ^ i % 2 = 1 := by omega
  apply decide_eq_decide.mpr
  rcases hb with h | h
  · rw [h]
    constructor
    · intro q
      exfalso
      have q' : ((0 : Nat) : Int) = ((2 ^ i : Nat) : Int) := by simpa using q
      have := Int.ofNat.inj q'
      omega
    · intro q; simp at q
  · rw [h]; simp
theorem cond_2112 {idx v : Int} (hi : idx ≠ 0) (hv : 0 ≤ v) : cond idx v 2112 = (decide (v / 2048 % 2 = 1) && decide (v / 64 % 2 = 1)) := by
  unfold cond
  rw [if_neg hi, and_nat hv (by decide)]
  show decide (((v.toNat &&& (2 ^ 11 ||| 2 ^ 6) : Nat) : Int) = 2112) = _
  rw [and_two]
  have e1 : v / 2048 % 2 = ((v.toNat / 2 ^ 11 % 2 : Nat) : Int) := by omega
  have e2 : v / 64 % 2 = ((v.toNat / 2 ^ 6 % 2 : Nat) : Int) := by omega
  rw [e1, e2]
  have h1 : v.toNat / 2 ^ 11 % 2 = 0 ∨ v.toNat / 2 ^ 11 % 2 = 1 := by omega
  have h2 : v.toNat / 2 ^ 6 % 2 = 0 ∨ v.toNat / 2 ^ 6 % 2 = 1 := by omega
  rcases h1 with h1 | h1 <;> rcases h2 with h2 | h2 <;> rw [h1, h2] <;> decide
theorem cond_1032 {idx v : Int} (hi : idx ≠ 0) (hv : 0 ≤ v) : cond idx v 1032 = (decide (v / 1024 % 2 = 1) && decide (v / 8 % 2 = 1)) := by
  unfold cond
  rw [if_neg hi, and_nat hv (by decide)]
  show decide (((v.toNat &&& (2 ^ 10 ||| 2 ^ 3) : Nat) : Int) = 1032) = _
  rw [and_two]
  have e1 : v / 1024 % 2 = ((v.toNat / 2 ^ 10 % 2 : Nat) : Int) := by omega
  have e2 : v / 8 % 2 = ((v.toNat / 2 ^ 3 % 2 : Nat) : Int) := by omega
  rw [e1, e2]
  have h1 : v.toNat / 2 ^ 10 % 2 = 0 ∨ v.toNat / 2 ^ 10 % 2 = 1 := by omega
  have h2 : v.toNat / 2 ^ 3 % 2 = 0 ∨ v.toNat / 2 ^ 3 % 2 = 1 := by omega
  rcases h1 with h1 | h1 <;> rcases h2 with h2 | h2 <;> rw [h1, h2] <;> decide
theorem cond_513 {idx v : Int} (hi : idx ≠ 0) (hv : 0 ≤ v) : cond idx v 513 = (decide (v / 512 % 2 = 1) && decide (v / 1 % 2 = 1)) := by
  unfold cond
  rw [if_neg hi, and_nat hv (by decide)]
  show decide (((v.toNat &&& (2 ^ 9 ||| 2 ^ 0) : Nat) : Int) = 513) = _
  rw [and_two]
  have e1 : v / 512 % 2 = ((v.toNat / 2 ^ 9 % 2 : Nat) : Int) := by omega
  have e2 : v / 1 % 2 = ((v.toNat / 2 ^ 0 % 2 : Nat) : Int) := by omega
  rw [e1, e2]
  have h1 : v.toNat / 2 ^ 9 % 2 = 0 ∨ v.toNat / 2 ^ 9 % 2 = 1 := by omega
  have h2 : v.toNat / 2 ^ 0 % 2 = 0 ∨ v.toNat / 2 ^ 0 % 2 = 1 := by omega
  rcases h1 with h1 | h1 <;> rcases h2 with h2 | h2 <;> rw [h1, h2] <;> decide
end Mine
-- Pl5
namespace Mine
def lR (c : Int) : Nat := if c = 1 then 114 else 45
def lW (c : Int) : Nat := if c = 1 then 119 else 45
def lX (e a : Int) : Nat := if e = 1 then (if a = 1 then 115 else 83) else if a = 1 then 120 else 45
def lT (e a : Int) : Nat := if e = 1 then (if a = 1 then 116 else 84) else if a = 1 then 120 else 45
theorem bit_or {b : Int} (h : Bit b) : b = 0 ∨ b = 1 := by unfold Bit at h; omega
theorem tab_S {e c b a : Int} (he : Bit e) (hc : Bit c) (hb : Bit b) (ha : Bit a) :
    tabS (Str.ofString "-xSs") (8 * e + 4 * c + 2 * b + a) = ⟨#[lR c, lW b, lX e a]⟩ := by
  rcases bit_or he with h | h <;> subst h <;> rcases bit_or hc with h | h <;> subst h <;> rcases bit_or hb with h | h <;> subst h <;> rcases bit_or ha with h | h <;> subst h <;> decide +kernel
theorem tab_T {e c b a : Int} (he : Bit e) (hc : Bit c) (hb : Bit b) (ha : Bit a) :
    tabS (Str.ofString "-xTt") (8 * e + 4 * c + 2 * b + a) = ⟨#[lR c, lW b, lT e a]⟩ := by
  rcases bit_or he with h | h <;> subst h <;> rcases bit_or hc with h | h <;> subst h <;> rcases bit_or hb with h | h <;> subst h <;> rcases bit_or ha with h | h <;> subst h <;> decide +kernel
theorem strR : Str.ofString "r" = ⟨#[114]⟩ := by decide +kernel
theorem strW : Str.ofString "w" = ⟨#[119]⟩ := by decide +kernel
theorem strX : Str.ofString "x" = ⟨#[120]⟩ := by decide +kernel
theorem strS : Str.ofString "s" = ⟨#[115]⟩ := by decide +kernel
theorem strSS : Str.ofString "S" = ⟨#[83]⟩ := by decide +kernel
theorem strT : Str.ofString "t" = ⟨#[116]⟩ := by decide +kernel
theorem strTT : Str.ofString "T" = ⟨#[84]⟩ := by decide +kernel
theorem strD : Str.ofString "-" = ⟨#[45]⟩ := by decide +kernel
theorem pick_R {idx v : Int} (hi : idx ≠ 0) (hv : 0 ≤ v) (i : Nat) : pick idx v [(((2 ^ i : Nat) : Int), Str.ofString "r")] = ⟨#[lR (v / ((2 ^ i : Nat) : Int) % 2)]⟩ := by
  simp only [pick, cond_bit hi hv, if_neg hi, strR, strD, lR, decide_eq_true_eq]
  split <;> rfl
theorem pick_W {idx v : Int} (hi : idx ≠ 0) (hv : 0 ≤ v) (i : Nat) : pick idx v [(((2 ^ i : Nat) : Int), Str.ofString "w")] = ⟨#[lW (v / ((2 ^ i : Nat) : Int) % 2)]⟩ := by
  simp only [pick, cond_bit hi hv, if_neg hi, strW, strD, lW, decide_eq_true_eq]
  split <;> rfl
theorem pick_3 {idx v : Int} (hi : idx ≠ 0) (hv : 0 ≤ v) {both : Int} {i j : Nat} (h2 : cond idx v both = (decide (v / ((2 ^ i : Nat) : Int) % 2 = 1) && decide (v / ((2 ^ j : Nat) : Int) % 2 = 1))) :
    pick idx v [(both, Str.ofString "s"), (((2 ^ i : Nat) : Int), Str.ofString "S"), (((2 ^ j : Nat) : Int), Str.ofString "x")] = ⟨#[lX (v / ((2 ^ i : Nat) : Int) % 2) (v / ((2 ^ j : Nat) : Int) % 2)]⟩ := by
  simp only [pick, cond_bit hi hv, h2, if_neg hi, strS, strSS, strX, strD, lX, decide_eq_true_eq, Bool.and_eq_true]
  by_cases h1 : v / ((2 ^ i : Nat) : Int) % 2 = 1 <;> by_cases h3 : v / ((2 ^ j : Nat) : Int) % 2 = 1 <;> simp only [h1, h3, and_true, true_and, and_false, false_and, if_true, if_false]
theorem pick_T {idx v : Int} (hi : idx ≠ 0) (hv : 0 ≤ v) {both : Int} {i j : Nat} (h2 : cond idx v both = (decide (v / ((2 ^ i : Nat) : Int) % 2 = 1) && decide (v / ((2 ^ j : Nat) : Int) % 2 = 1))) :
    pick idx v [(both, Str.ofString "t"), (((2 ^ i : Nat) : Int), Str.ofString "T"), (((2 ^ j : Nat) : Int), Str.ofString "x")] = ⟨#[lT (v / ((2 ^ i : Nat) : Int) % 2) (v / ((2 ^ j : Nat) : Int) % 2)]⟩ := by
  simp only [pick, cond_bit hi hv, h2, if_neg hi, strT, strTT, strX, strD, lT, decide_eq_true_eq, Bool.and_eq_true]
  by_cases h1 : v / ((2 ^ i : Nat) : Int) % 2 = 1 <;> by_cases h3 : v / ((2 ^ j : Nat) : Int) % 2 = 1 <;> simp only [h1, h3, and_true, true_and, and_false, false_and, if_true, if_false]
theorem pick_K {v : Int} (hv : 0 ≤ v) : pick 0 v (fmRows.getD 0 []) = Txt.item (Str.ofString "?pc?d?b?-?l?s???") (v / 4096 % 16) := by
  have h : fmRows.getD 0 [] = [(40960, Str.ofString "l"), (49152, Str.ofString "s"), (32768, Str.ofString "-"), (24576, Str.ofString "b"), (16384, Str.ofString "d"), (8192, Str.ofString "c"), (4096, Str.ofString "p")] := rfl
  rw [h]
  simp only [pick, cond, if_true, and_fmt hv]
  have h16 : 0 ≤ v / 4096 % 16 ∧ v / 4096 % 16 < 16 := by omega
  generalize v / 4096 % 16 = d at *
  have hd : d = 0 ∨ d = 1 ∨ d = 2 ∨ d = 3 ∨ d = 4 ∨ d = 5 ∨ d = 6 ∨ d = 7 ∨ d = 8 ∨ d = 9 ∨ d = 10 ∨ d = 11 ∨ d = 12 ∨ d = 13 ∨ d = 14 ∨ d = 15 := by omega
  rcases hd with e | e | e | e | e | e | e | e | e | e | e | e | e | e | e | e <;> subst e <;> decide +kernel
theorem item_one (x : Str) (d : Int) : ∃ c, Txt.item x d = ⟨#[c]⟩ := ⟨_, rfl⟩
theorem join10 (a b c d e f g h i j : Nat) : Txt.join (Str.ofString "") [⟨#[a]⟩, ⟨#[b]⟩, ⟨#[c]⟩, ⟨#[d]⟩, ⟨#[e]⟩, ⟨#[f]⟩, ⟨#[g]⟩, ⟨#[h]⟩, ⟨#[i]⟩, ⟨#[j]⟩] = ⟨#[a, b, c, d, e, f, g, h, i, j]⟩ := rfl
theorem app4 (a b c d e f g h i j : Nat) : (⟨#[a]⟩ : Str) ++ (⟨#[b, c, d]⟩ : Str) ++ (⟨#[e, f, g]⟩ : Str) ++ (⟨#[h, i, j]⟩ : Str) = ⟨#[a, b, c, d, e, f, g, h, i, j]⟩ := rfl
theorem picks_eq {v : Int} (hv : 0 ≤ v) : picksTo v 10 = [Txt.item (Str.ofString "?pc?d?b?-?l?s???") (v / 4096 % 16), ⟨#[lR (v / 256 % 2)]⟩, ⟨#[lW (v / 128 % 2)]⟩, ⟨#[lX (v / 2048 % 2) (v / 64 % 2)]⟩, ⟨#[lR (v / 32 % 2)]⟩, ⟨#[lW (v / 16 % 2)]⟩, ⟨#[lX (v / 1024 % 2) (v / 8 % 2)]⟩, ⟨#[lR (v / 4 % 2)]⟩, ⟨#[lW (v / 2 % 2)]⟩, ⟨#[lT (v / 512 % 2) (v / 1 % 2)]⟩] := by
  have h0 := pick_K hv
  have h1 := pick_R (idx := 1) (by decide) hv 8
  have h2 := pick_W (idx := 2) (by decide) hv 7
  have h3 := pick_3 (idx := 3) (i := 11) (j := 6) (by decide) hv (cond_2112 (by decide) hv)
  have h4 := pick_R (idx := 4) (by decide) hv 5
  have h5 := pick_W (idx := 5) (by decide) hv 4
  have h6 := pick_3 (idx := 6) (i := 10) (j := 3) (by decide) hv (cond_1032 (by decide) hv)
  have h7 := pick_R (idx := 7) (by decide) hv 2
  have h8 := pick_W (idx := 8) (by decide) hv 1
  have h9 := pick_T (idx := 9) (i := 9) (j := 0) (by decide) hv (cond_513 (by decide) hv)
  show [pick 0 v (fmRows.getD 0 []), pick 1 v [(256, Str.ofString "r")], pick 2 v [(128, Str.ofString "w")], pick 3 v [(2112, Str.ofString "s"), (2048, Str.ofString "S"), (64, Str.ofString "x")],
    pick 4 v [(32, Str.ofString "r")], pick 5 v [(16, Str.ofString "w")], pick 6 v [(1032, Str.ofString "s"), (1024, Str.ofString "S"), (8, Str.ofString "x")],
    pick 7 v [(4, Str.ofString "r")], pick 8 v [(2, Str.ofString "w")], pick 9 v [(513, Str.ofString "t"), (512, Str.ofString "T"), (1, Str.ofString "x")]] = _
  rw [h0]
  exact congrArg (List.cons _) (congr (congrArg List.cons h1) (congr (congrArg List.cons h2) (congr (congrArg List.cons h3) (congr (congrArg List.cons h4) (congr (congrArg List.cons h5) (congr (congrArg List.cons h6) (congr (congrArg List.cons h7) (congr (congrArg List.cons h8) (congr (congrArg List.cons h9) rfl)))))))))
theorem dg_eq {r : Int} : dg r 0 = r / 4096 % 16 ∧ dg r 1 = r / 256 % 16 ∧ dg r 2 = r / 16 % 16 ∧ dg r 3 = r % 16 := by
  unfold dg
  refine ⟨?_, ?_, ?_, ?_⟩
  · show (r.fdiv 4096).fmod 16 = _
    rw [Int.fdiv_eq_ediv_of_nonneg _ (by decide), Int.fmod_eq_emod_of_nonneg _ (by decide)]
  · show (r.fdiv 256).fmod 16 = _
    rw [Int.fdiv_eq_ediv_of_nonneg _ (by decide), Int.fmod_eq_emod_of_nonneg _ (by decide)]
  · show (r.fdiv 16).fmod 16 = _
    rw [Int.fdiv_eq_ediv_of_nonneg _ (by decide), Int.fmod_eq_emod_of_nonneg _ (by decide)]
  · show (r.fdiv 1).fmod 16 = _
    rw [Int.fdiv_eq_ediv_of_nonneg _ (by decide), Int.fmod_eq_emod_of_nonneg _ (by decide), Int.ediv_one]
theorem main_eq {M mo : Int} {k : Nat} (hk : k < 8) (h0 : 0 ≤ M) (hm0 : 0 ≤ mo) (hm : mo % 65536 = rowF M k % 65536) :
    Txt.join (Str.ofString "") (picksTo mo 10) = listS (dg (rowF M (k + 1)) 0) (dg (rowF M (k + 1)) 1) (dg (rowF M (k + 1)) 2) (dg (rowF M (k + 1)) 3) := by
  have e := row_mk h0 k
  have e' := row_mk h0 (k + 1)
  rw [rb_wrap M hk, rb_step M hk 0, rb_step M hk 1, rb_step M hk 2, rb_step M hk 3, rb_step M hk 4, rb_step M hk 5, rb_step M hk 6] at e'
  have b0 := rb_bit M k 0
  have b1 := rb_bit M k 1
  have b2 := rb_bit M k 2
  have b3 := rb_bit M k 3
  have b4 := rb_bit M k 4
  have b5 := rb_bit M k 5
  have b6 := rb_bit M k 6
  have b7 := rb_bit M k 7
  have c0 : Bit (M % 2) := by unfold Bit; omega
  have c1 : Bit (M / 2 % 2) := by unfold Bit; omega
  have c2 : Bit (M / 4 % 2) := by unfold Bit; omega
  have c11 : Bit (M / 2048 % 2) := by unfold Bit; omega
  generalize rb M k 0 = r0 at *
  generalize rb M k 1 = r1 at *
  generalize rb M k 2 = r2 at *
  generalize rb M k 3 = r3 at *
  generalize rb M k 4 = r4 at *
  generalize rb M k 5 = r5 at *
  generalize rb M k 6 = r6 at *
  generalize rb M k 7 = r7 at *
  generalize M % 2 = m0 at *
  generalize M / 2 % 2 = m1 at *
  generalize M / 4 % 2 = m2 at *
  generalize M / 2048 % 2 = m11 at *
  obtain ⟨f3, f2, f1, f0⟩ := mk12_at c11 b5 b7 b4 b6 b3 b2 b1 b0 c2 c1 c0 e
  obtain ⟨g3, g2, g1, g0⟩ := mk12_at c11 b4 b6 b3 b5 b2 b1 b0 b7 c2 c1 c0 e'
  obtain ⟨d0, d1, d2, d3⟩ := dg_eq (r := rowF M (k + 1))
  rw [d0, d1, d2, d3, g3, g2, g1, g0]
  clear d0 d1 d2 d3 g3 g2 g1 g0 e e'
  have n0 := nib b0 c2 c1 c0 (y := mo) (by omega)
  have n1 := nib b6 b3 b2 b1 (y := mo / 16) (by omega)
  have n2 := nib c11 b5 b7 b4 (y := mo / 256) (by omega)
  have k3 : mo / 4096 % 16 = M / 4096 % 16 := by omega
  rw [picks_eq hm0, k3]
  rw [show mo / 256 % 2 = r4 by omega, show mo / 128 % 2 = r6 by omega, show mo / 2048 % 2 = m11 by omega, show mo / 64 % 2 = r3 by omega, show mo / 32 % 2 = r2 by omega, show mo / 16 % 2 = r1 by omega, show mo / 1024 % 2 = r5 by omega, show mo / 8 % 2 = r0 by omega, show mo / 4 % 2 = m2 by omega, show mo / 2 % 2 = m1 by omega, show mo / 512 % 2 = r7 by omega, show mo / 1 % 2 = m0 by omega]
  unfold listS
  rw [tab_S c11 b4 b6 b3, tab_S b5 b2 b1 b0, tab_T b7 c2 c1 c0]
  obtain ⟨c, hc⟩ := item_one (Str.ofString "?pc?d?b?-?l?s???") (M / 4096 % 16)
  rw [hc, join10, app4]
end Mine
-- La1
namespace Mine
theorem ints_at {vs : List Value} {ns : List Int} (hI : IntsAre vs ns) {i : Nat} {v : Value} (hv : vs.toArray[i]? = some v) : ∃ z t, v = .int z t := by
  obtain ⟨k, t, e, _⟩ := IntsAre.at hI i v (by simpa using hv)
  exact ⟨k, t, e⟩
theorem row_at {M : Int} {rs : List Value} (hl : rs.length = 9 ∧ ∀ (i : Nat) (y : Value), rs[i]? = some y → ∃ t, y = Value.int (rowF M i) t) {i : Nat} (h : i < 8) :
    ∃ t, rs[((i : Int) + 1).toNat]? = some (Value.int (rowF M (i + 1)) t) := by
  have hlt : i + 1 < rs.length := by omega
  obtain ⟨t, e⟩ := hl.2 (i + 1) rs[i + 1] (by simp [hlt])
  refine ⟨t, ?_⟩
  rw [show ((i : Int) + 1).toNat = i + 1 by omega, List.getElem?_eq_getElem hlt, e]
theorem row0 {M : Int} : rowF M 0 = M := by
  simp [rowF, rowO]
theorem fd_fmt {r : Int} : (r.fdiv 4096).fmod 16 * 4096 = r / 4096 % 16 * 4096 := by
  rw [Int.fdiv_eq_ediv_of_nonneg _ (by decide), Int.fmod_eq_emod_of_nonneg _ (by decide)]
theorem fd_mode {r : Int} : r.fmod 4096 = r % 4096 := by
  rw [Int.fmod_eq_emod_of_nonneg _ (by decide)]
theorem bne_ffS (x : Str) : (x != x) = true → False := by simp
theorem bne_ff {α : Type} [BEq α] [ReflBEq α] (x : α) : (x != x) = true → False := fun h => by rw [bne, BEq.rfl] at h; exact absurd h (by decide)
theorem c_apR (w : World) (mean : ExcName → Option Value) (mg mb : Str → Option Value) (news : List (Addr × Obj)) (v : Int) (t : Tok) (r : Int) (hv0 : -65536 < v) (hv : v < 65536) (hr : 0 ≤ r ∧ absI v = r % 65536) :
    CbClaim PySem.Challenge.rw_om0006_01.row.prog w (hd.heap_39 w.params) hd.view_39 (looseW hd.view_39 [Str.ofString "_filemode_table"]) mean mg mb 75 news [] True [.int v t] (fun t => .bytes (wordOf (dg r 0) (dg r 1) (dg r 2) (dg r 3)) t) := by
  obtain ⟨e0, e1, e2, e3⟩ := dg_eq (r := r)
  have h := c_ap w mean mg mb news v t hv0 hv
  rw [hr.2] at h
  rw [e0, e1, e2, e3]
  rw [show r % 65536 / 4096 = r / 4096 % 16 by omega, show r % 65536 / 256 % 16 = r / 256 % 16 by omega, show r % 65536 / 16 % 16 = r / 16 % 16 by omega, show r % 65536 % 16 = r % 16 by omega] at h
  exact h
theorem c_fmR (w : World) (mean : ExcName → Option Value) (mg mb : Str → Option Value) (news : List (Addr × Obj)) (v : Int) (t : Tok) (y : Str) (hy : Txt.join (Str.ofString "") (picksTo v 10) = y) :
    Cl w mean mg mb 68 news [.int v t] (fun t => .str y t) := by
  have h := c_fm w mean mg mb news v t
  rw [hy] at h
  exact h
local macro_rules | `(tactic| walk_at "SamePost") => `(tactic| (dsimp only [SamePost]))
local macro_rules | `(tactic| walk_at "call ref") => `(tactic| (k_here; (with_reducible show wpAny _ _ (call (Value.ref 75) _) _ _ _); (have hCb := @c_apR); (dsimp only [CbClaim, CbLists, CbRet] at hCb); (refine' hCb _ _ _ _ _ _ _ _ (by omega) (by omega) (by assumption) _ _ _ _ _ _ _ _ _ _ _ _ _ _ _ _ _ ?k1 ?k2 ?k3 ?k4 ?k5 ?kK trivial ?kd ?ku ?kR); (case k1 => k_asm); (case k2 => k_asm); (case k3 => k_asm); (case k4 => k_asm); (case k5 => k_asm); (case kK => first | exact rfl | assumption); (case kd => ktr_room); (case ku => ktr_units); (clear hCb); (intro t9 h9 tk9 F9 N9); (try dsimp only); (try k_fold)))
local macro_rules | `(tactic| walk_at "call ref") => `(tactic| (k_here; (with_reducible show wpAny _ _ (call (Value.ref 90) _) _ _ _); (have hCb := @c_word); (dsimp only [Cl] at hCb); (refine' hCb _ _ _ _ _ _ _ (by omega) (by omega) _ _ _ _ _ _ _ _ _ _ _ _ _ _ _ _ _ ?k1 ?k2 ?k3 ?k4 ?k5 ?kK ?kd ?ku ?kR); (case k1 => k_asm); (case k2 => k_asm); (case k3 => k_asm); (case k4 => k_asm); (case k5 => k_asm); (case kK => first | exact rfl | assumption); (case kd => ktr_room); (case ku => ktr_units); (clear hCb); (intro t9 h9 tk9 F9 N9); (try dsimp only); (try k_fold)))
local macro_rules | `(tactic| walk_at "call ref") => `(tactic| (k_here; (with_reducible show wpAny _ _ (call (Value.ref 68) _) _ _ _); (have hCb := @c_fmR); (dsimp only [Cl] at hCb); (refine' hCb _ _ _ _ _ _ _ _ (by assumption) _ _ _ _ _ _ _ _ _ _ _ _ _ _ _ _ _ ?k1 ?k2 ?k3 ?k4 ?k5 ?kK ?kd ?ku ?kR); (case k1 => k_asm); (case k2 => k_asm); (case k3 => k_asm); (case k4 => k_asm); (case k5 => k_asm); (case kK => first | exact rfl | assumption); (case kd => ktr_room); (case ku => ktr_units); (clear hCb); (intro t9 h9 tk9 F9 N9); (try dsimp only); (try k_fold)))
local macro_rules | `(tactic| walk_at "call ref") => `(tactic| (k_here; (with_reducible show wpAny _ _ (call (Value.ref 95) _) _ _ _); (have hCb := @c_list); (dsimp only [Cl] at hCb); (refine' hCb _ _ _ _ _ _ _ _ _ _ _ _ _ _ (by assumption) (by assumption) (by assumption) (by assumption) ?m1 ?m2 ?q1 ?q2 ?q3 ?q4 _ _ _ _ _ _ _ _ _ _ _ _ _ _ _ _ _ ?k1 ?k2 ?k3 ?k4 ?k5 ?kK ?kd ?ku ?kR); (case k1 => k_asm); (case k2 => k_asm); (case k3 => k_asm); (case k4 => k_asm); (case k5 => k_asm); (case m1 => (repeat (first | assumption | refine List.mem_cons_of_mem _ ?_))); (case m2 => (repeat (first | assumption | refine List.mem_cons_of_mem _ ?_))); (case q1 => assumption); (case q2 => assumption); (case q3 => assumption); (case q4 => assumption); (case kK => first | exact rfl | assumption); (case kd => ktr_room); (case ku => ktr_units); (clear hCb); (intro t9 h9 tk9 F9 N9); (try dsimp only); (try k_fold)))
local macro_rules | `(tactic| walk_at "subscriptTail") => `(tactic| (k_here; (with_reducible show wpAny _ _ (subscriptTail _ _ (Value.ref _) (Value.int _ _)) _ _ _); (refine itemAt (News.isList (by k_asm) (by repeat (first | assumption | refine List.mem_cons_of_mem _ ?_))) (by omega) (by omega) (by assumption) ?_)))
theorem opaque_round {prog : Program} {w : World} {A : Around} {t : Expr} {v : Value} {env : Env} {body : List Stmt} {h₀ : Heap} {L : Addr} {rest : List (Addr × Obj)} {J : (Str → Option Value) → Prop} {s₀ s : Shared} {Q₀ : Flow → Shared → Prop} {E₀ : Value → Shared → Prop}
    (h : ∀ Q E, wpAny (model prog w) A (assign t env v) (fun _ s₂ => wpAny (model prog w) A (execs body env) (SamePost h₀ L rest J s₀ Q) E s₂) E s) :
    wpAny (model prog w) A (assign t env v) (fun _ s₂ => wpAny (model prog w) A (execs body env) (SamePost h₀ L rest J s₀ Q₀) E₀ s₂) E₀ s := h _ _
theorem news_drop2 {h₀ h' : Heap} {L : Addr} {a b : Addr × Obj} {rest : List (Addr × Obj)} (N : News h₀ L h' (a :: b :: rest)) : News h₀ L h' rest :=
  fun p hp => N p (List.mem_cons_of_mem _ (List.mem_cons_of_mem _ hp))
theorem SameEnd.mk {h₀ h' : Heap} {L : Addr} {rest : List (Addr × Obj)} {J : (Str → Option Value) → Prop} {s₁ : Shared} {tk : Nat} {m' : Str → Option Value}
    (F : Fr h₀ L h' m') (N : News h₀ L h' rest) (hj : J m') : SameEnd h₀ L rest J s₁ { s₁ with heap := h', toks := tk } :=
  ⟨h', tk, m', rfl, F, N, hj⟩
theorem roundEnd {m₂ : Str → Option Value} {lt ll lr lp : Addr} {v r : Int} {t tm : Tok} {wd : Value} {k : Value} {mo : Int} (h0 : 0 ≤ v) (h1 : v < 1048576) (h2 : v % 65536 = r % 65536) :
    (fun m : Str → Option Value => m (Str.ofString "table") = some (.ref lt) ∧ m (Str.ofString "last") = some (.ref ll) ∧ m (Str.ofString "row") = some (.ref lr) ∧ ∃ mo t, m (Str.ofString "mode") = some (.int mo t) ∧ 0 ≤ mo ∧ mo < 1048576 ∧ mo % 65536 = r % 65536)
      (fun y => if y = Str.ofString "mode" then some (.int v t) else if y = Str.ofString "word" then some wd else if y = Str.ofString "parts" then some (.ref lp) else if y = Str.ofString "k" then some k else if y = Str.ofString "table" then some (.ref lt) else if y = Str.ofString "last" then some (.ref ll) else if y = Str.ofString "row" then some (.ref lr) else if y = Str.ofString "mode" then some (.int mo tm) else m₂ y) :=
  ⟨rfl, rfl, rfl, v, t, rfl, h0, h1, h2⟩
theorem law_holds : PySem.Challenge.rw_om0006_01.Holds := hd (by
  k_go0
  all_goals try k_fold
  repeat' ((fail_if_success (with_reducible show wpAny _ _ (call (Value.ref _) _) _ _ _)); first | (k_unfold; (try dsimp only)) | walk1 | (dsimp only; walk1) | fail "no step")
  have hCb1 := @c_tabS
  dsimp only [ClL] at hCb1
  refine' hCb1 _ _ _ _ _ _ _ _ _ _ _ _ _ _ _ _ _ _ _ _ _ _ _ ?z1_k1 ?z1_k2 ?z1_k3 ?z1_k4 ?z1_k5 ?z1_kK ?z1_kd ?z1_ku ?z1_kR
  case z1_k1 => k_asm
  case z1_k2 => k_asm
  case z1_k3 => k_asm
  case z1_k4 => k_asm
  case z1_k5 => k_asm
  case z1_kK => first | exact rfl | assumption
  case z1_kd => ktr_room
  case z1_ku => ktr_units
  clear hCb1
  intro lt xs h1 tk1 hxs F1 N1 hne1
  repeat' ((fail_if_success (with_reducible show wpAny _ _ (call (Value.ref _) _) _ _ _)); first | (k_unfold; (try dsimp only)) | walk1 | (dsimp only; walk1) | fail "no step")
  have hCb2 := @c_tabT
  dsimp only [ClL] at hCb2
  refine' hCb2 _ _ _ _ _ _ _ _ _ _ _ _ _ _ _ _ _ _ _ _ _ _ _ ?z2_k1 ?z2_k2 ?z2_k3 ?z2_k4 ?z2_k5 ?z2_kK ?z2_kd ?z2_ku ?z2_kR
  case z2_k1 => k_asm
  case z2_k2 => k_asm
  case z2_k3 => k_asm
  case z2_k4 => k_asm
  case z2_k5 => k_asm
  case z2_kK => first | exact rfl | assumption
  case z2_kd => ktr_room
  case z2_ku => ktr_units
  clear hCb2
  intro ll ys h2 tk2 hys F2 N2 hne2
  obtain ⟨hxl, hxv⟩ := hxs
  obtain ⟨hyl, hyv⟩ := hys
  repeat' ((fail_if_success (with_reducible show wpAny _ _ (exec (Stmt.For _ _ _ _ _) _) _ _ _)); first | (k_unfold; (try dsimp only)) | walk1 | (dsimp only; walk1) | fail "no step")
  (with_reducible rename Fr _ _ _ _ => F)
  (with_reducible rename News _ _ _ _ => N)
  refine cutList (fun z => True) F N ?_ ?_
  · repeat' ((fail_if_success (with_reducible show ListMid _ _ _ _ _ _ _ _)); first | (k_unfold; (try dsimp only)) | walk1 | (dsimp only; walk1) | fail "no step")
    · exact ⟨_, _, _, _, _, _, _, _, rfl, rfl, by k_asm, by k_asm, by kcj_all, List.mem_cons_self .., rfl, rfl, by assumption, fun _ _ => trivial⟩
    · exact ⟨_, _, _, _, _, _, _, _, rfl, rfl, by k_asm, by k_asm, by kcj_all, List.mem_cons_self .., rfl, rfl, IntsAre.cons _ _ IntsAre.nil, fun _ _ => trivial⟩
  · intro D lo vs ns n h tk nw F N hsub hD hc hdd hI hZ
    refine listFor (fun i m => m (Str.ofString "table") = some (.ref lt) ∧ m (Str.ofString "last") = some (.ref ll)) ?g1 F N hD hc hdd ?g2 ?g3 ?turn ?done
    case g1 => rfl
    case g2 => exact ⟨rfl, rfl⟩
    case g3 => first | passes_own | with_unfolding_all passes_own
    case done =>
      intro m₁ h₁ tk₁ hJ F₁ N₁
      k_steps
    case turn =>
      intro i v m₁ h₁ tk₁ rest hi hv hJ hsub₁ F₁ N₁
      obtain ⟨z, tz, rfl⟩ := ints_at hI hv
      obtain ⟨hJ1, hJ2⟩ := hJ
      have e1 : m₁ = fun y => if y = Str.ofString "table" then some (.ref lt) else if y = Str.ofString "last" then some (.ref ll) else m₁ y := by
        funext y
        split
        · rename_i hy; rw [hy, hJ1]
        · split
          · rename_i hy; rw [hy, hJ2]
          · rfl
      rw [e1] at F₁
      have hlt₁ := hsub₁ _ (hsub _ (show (lt, LCg.lst xs) ∈ _ from by k_mem))
      have hll₁ := hsub₁ _ (hsub _ (show (ll, LCg.lst ys) ∈ _ from by k_mem))
      clear F N
      dsimp only [envOf] at F₁ N₁
      repeat' ((fail_if_success (with_reducible show wpAny _ _ (call (Value.ref 80) _) _ _ _)); first | (k_unfold; (try dsimp only)) | walk1 | (dsimp only; walk1) | fail "no step")
      have hM0 : 0 ≤ (z * 4099 + 35305).fmod (2 ^ Int.toNat 20) ∧ (z * 4099 + 35305).fmod (2 ^ Int.toNat 20) < 1048576 := by
        rw [Int.fmod_eq_emod_of_nonneg _ (by decide)]
        exact ⟨Int.emod_nonneg _ (by decide), Int.emod_lt_of_pos _ (by decide)⟩
      generalize (z * 4099 + 35305).fmod (2 ^ Int.toNat 20) = M at *
      have hCb3 := @c_row
      dsimp only [ClL] at hCb3
      refine' hCb3 _ _ _ _ _ _ _ hM0.1 hM0.2 _ _ _ _ _ _ _ _ _ _ _ _ _ _ _ _ _ ?z3_k1 ?z3_k2 ?z3_k3 ?z3_k4 ?z3_k5 ?z3_kK ?z3_kd ?z3_ku ?z3_kR
      case z3_k1 => k_asm
      case z3_k2 => k_asm
      case z3_k3 => k_asm
      case z3_k4 => k_asm
      case z3_k5 => k_asm
      case z3_kK => first | exact rfl | assumption
      case z3_kd => ktr_room
      case z3_ku => ktr_units
      clear hCb3
      intro lr rs h3 tk3 hrs F3 N3 hne3
      repeat' ((fail_if_success (with_reducible show wpAny _ _ (exec (Stmt.For _ _ _ _ _) _) _ _ _)); first | (k_unfold; (try dsimp only)) | walk1 | (dsimp only; walk1) | fail "no step")
      refine wpAny_For ?_
      repeat' ((fail_if_success (with_reducible show wpAny _ _ (pyIter _) _ _ _)); first | (k_unfold; (try dsimp only)) | walk1 | (dsimp only; walk1) | fail "no step")
      (with_reducible rename Fr _ _ _ _ => F)
      (with_reducible rename News _ _ _ _ => N)
      refine rangeFor (n := 8) (fun k m => m (Str.ofString "table") = some (.ref lt) ∧ m (Str.ofString "last") = some (.ref ll) ∧ m (Str.ofString "row") = some (.ref lr) ∧ ∃ mo t, m (Str.ofString "mode") = some (.int mo t) ∧ 0 ≤ mo ∧ mo < 1048576 ∧ mo % 65536 = rowF M k % 65536) ?i1 F N (by assumption) (by decide) (by rfl) ?i2 ?i3 ?turn2 ?done2
      case i1 => rfl
      case i2 => exact ⟨rfl, rfl, rfl, _, _, rfl, hM0.1, hM0.2, by rw [row0]⟩
      case i3 => first | passes_own | with_unfolding_all passes_own
      case done2 =>
        intro m₂ h₂ tk₂ hJ F₂ N₂
        k_steps
        exact ⟨_, _, _, rfl, F₂, fun p hp => N₂ p (List.mem_cons_of_mem _ hp), hJ.1, hJ.2.1⟩
      case turn2 =>
        intro k kv m₂ h₂ tk₂ rest₂ hk hkv hJ hsub₂ F₂ N₂
        obtain ⟨tk9, rfl⟩ := hkv
        obtain ⟨hJ1, hJ2, hJ3, mo, tm, hJ4, hmo0, hmo1, hmo⟩ := hJ
        rw [Int.zero_add]
        refine opaque_round ?_
        intro Q9 E9
        have e2 : m₂ = fun y => if y = Str.ofString "table" then some (.ref lt) else if y = Str.ofString "last" then some (.ref ll) else if y = Str.ofString "row" then some (.ref lr) else if y = Str.ofString "mode" then some (.int mo tm) else m₂ y := by
          funext y
          split
          · rename_i hy; rw [hy, hJ1]
          · split
            · rename_i hy; rw [hy, hJ2]
            · split
              · rename_i hy; rw [hy, hJ3]
              · split
                · rename_i hy; rw [hy, hJ4]
                · rfl
        rw [e2] at F₂
        have hlt₂ := hsub₂ _ (List.mem_cons_of_mem _ hlt₁)
        have hll₂ := hsub₂ _ (List.mem_cons_of_mem _ hll₁)
        have hlr₂ := hsub₂ _ (List.mem_cons_self ..)
        obtain ⟨tr, hrk⟩ := row_at hrs hk
        have hr := rowF_in hM0.1 hM0.2 (k + 1)
        have hE := main_eq hk hM0.1 hmo0 hmo
        generalize hrM : rowF M (k + 1) = r at *
        have hS1 : 0 ≤ r ∧ absI (-(r / 4096 % 16 * 4096 + (r % 4096 + 0))) = r % 65536 := ⟨hr.1, by have := absI_facts (-(r / 4096 % 16 * 4096 + (r % 4096 + 0))); omega⟩
        have hS2 : 0 ≤ r ∧ absI (r / 4096 % 16 * 4096 + (r % 4096 + 0)) = r % 65536 := ⟨hr.1, by have := absI_facts (r / 4096 % 16 * 4096 + (r % 4096 + 0)); omega⟩
        have hEnd : 0 ≤ r / 4096 % 16 * 4096 + (r % 4096 + 0) ∧ r / 4096 % 16 * 4096 + (r % 4096 + 0) < 1048576 ∧ (r / 4096 % 16 * 4096 + (r % 4096 + 0)) % 65536 = r % 65536 := ⟨by omega, by omega, by omega⟩
        have hd0 := dg_in r 0
        have hd1 := dg_in r 1
        have hd2 := dg_in r 2
        have hd3 := dg_in r 3
        clear F N
        dsimp only [envOf] at F₂ N₂
        clear e2 hJ1 hJ2 hJ3 hJ4 hsub₂ hsub₁ hsub e1 hv hI hZ hD hc hdd
        have hA := and_fmt hr.1
        have hB := and_mode hr.1
        have hC := fd_fmt (r := r)
        have hD := fd_mode (r := r)
        repeat' ((fail_if_success (with_reducible show wpAny _ _ (call (Value.type _) _) _ _ _)); first | (k_unfold; (try dsimp only)) | walk1 | (dsimp only; walk1) | fail "no step")
        simp only [hA, hB] at *
        refine str_two (by k_asm) (by k_asm) (by k_mem) ⟨by omega, by omega⟩ ⟨by omega, by omega⟩ (by with_unfolding_all rfl) (by ktr_units) ?_
        intro h5 u5 tk5 F5 N5
        repeat' ((fail_if_success (with_reducible show wpAny _ _ (call (Value.type _) _) _ _ _)); first | (k_unfold; (try dsimp only)) | walk1 | (dsimp only; walk1) | fail "no step")
        simp only [hC, hD] at *
        refine str_two (by k_asm) (by k_asm) (by k_mem) ⟨by omega, by omega⟩ ⟨by omega, by omega⟩ (by with_unfolding_all rfl) (by ktr_units) ?_
        intro h6 u6 tk6 F6 N6
        repeat' ((fail_if_success (with_reducible show wpAny _ _ (call (Value.ref 75) _) _ _ _)); first | (k_unfold; (try dsimp only)) | walk1 | (dsimp only; walk1) | fail "no step")
        · exfalso; exact bne_ffS _ (by assumption)
        all_goals repeat' ((fail_if_success (with_reducible show SameEnd _ _ _ _ _ _)); (first | ((with_reducible show wpAny _ _ (call (Value.ref _) _) _ _ _); walk_at "call ref") | (k_unfold; (try dsimp only)) | walk1 | (dsimp only; walk1) | fail "no step"))
        all_goals first
          | ((with_reducible show SameEnd _ _ _ _ _ _)
             (with_reducible rename Fr _ _ _ _ => Fz)
             (with_reducible rename News _ _ _ _ => Nz)
             refine SameEnd.mk Fz (news_drop2 Nz) ?_
             exact roundEnd hEnd.1 hEnd.2.1 hEnd.2.2)
          | ((with_reducible show Q9 _ _); exfalso; rename_i hz; with_reducible exact bne_ff _ hz))
      end Mine
theorem PySem.Challenge.cw_om0006_01_holds : PySem.Challenge.rw_om0006_01.Holds :=
  Mine.law_holds
