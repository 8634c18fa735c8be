import PyProof.Rows.All
import Wide.All
import OpenK.AllK
import Lean
import PySem.Challenge.RW_in0186_01
set_option Elab.async false
set_option compiler.extract_closed false
namespace Mine
section
open PySem PySem.W PyProof.Rows
set_option Elab.async false
set_option maxRecDepth 100000
set_option maxHeartbeats 8000000
noncomputable def viewP : Program := W.view PySem.Challenge.pw_in0186_01 [0, 1, 3, 4, 5, 6, 8, 10, 11, 12, 13, 14, 15, 16, 17, 18]
theorem said9 : OpenLaw.wellSaid PySem.Challenge.rw_in0186_01 = true := by kernel_rfl
theorem left_of {p q : Program} {loose : List Str} {Xt : Shared → Bool} {α : Type} {Yf : Shared → α} {Ya : World → α} {N : Nat}
   (h : ∀ w : World, ((Fast.tw10274390034422433532 Fast.tw14364793385576792824 (opening p) w N (Fast.tw1435165496053646825 (opening p)).fst (Fast.tw1435165496053646825 (opening p)).snd).bind (Fast.tw14289696077712309145 p) |>.bind fun s₀ =>
     match s₀.heap.isNs mainGlobals && s₀.gens.size == 0 with
  | true =>
    (Fast.tw14082659384304107361 Fast.tw14364793385576792824 p w s₀.heap.objs.size (s₀.heap.nsMap mainGlobals (Str.ofString "__annotations__")) N s₀ (topStub p)).bind
      fun s₁ =>
      match
        staticsOk (Fast.tw5923862056798008813 p.main.body) s₀.heap s₁.heap && namesBound p s₁.heap && gensDone s₁ &&
          laidKept s₀.heap s₁.heap with
      | true => some s₁
      | false => none
  | false => none).map (fun s => (Fast.tw4187177175401517315 q loose (Fast.tw5923862056798008813 p.main.body) Xt true s, Yf s)) = some (openGood q loose, Ya w)) : LeftO p q loose Xt Yf Ya N := by
  intro w
  rw [← Fast.te10274390034422433532, ← Fast.te14364793385576792824, ← Fast.te1435165496053646825, ← Fast.te14289696077712309145, ← Fast.te14082659384304107361, ← Fast.te5923862056798008813, ← Fast.te4187177175401517315] at h
  exact h w
set_option hygiene false in
local macro_rules | `(tactic| o_law) => `(tactic| refine holds_law said9 fun said => ?_)
set_option hygiene false in
local macro_rules | `(tactic| o_head $H) => `(tactic| (refine holds_open (q := viewP) (loose := [Str.ofString "_tuplegetter", Str.ofString "Pair"]) (Xt := fun s => xlAt viewP [] s && recOk (RowW.records (OpenRow.toRowW (OpenLaw.row PySem.Challenge.rw_in0186_01))) s) (XP := XL viewP []) (Yf := Hook.obs $H) (Ya := Hook.val $H) (YP := Hook.says $H) (N := 4610) ?hl (Hook.of $H) (Hook.keeps $H) (fun s e => xl_of s (Bool.and_eq_true_iff.mp e).1) XL.keeps (by rfl) (by rfl) (by rfl) (fun s e => recFacts_of (Bool.and_eq_true_iff.mp e).2) (by rfl) (by first | assumption | decide +kernel) (by decide +kernel) ⟨rfl, rfl, rfl, rfl, rfl, by decide +kernel⟩ ?hw ?hc; (case hl => (refine left_of ?_; intro w9; kernel_rfl))))
open_top hd for PySem.Challenge.rw_in0186_01
end
section
open PySem PySem.W PyProof.Rows
set_option Elab.async false
set_option maxRecDepth 100000
noncomputable abbrev KW (w : World) : Frag := hd.heap_1 w.params
noncomputable abbrev PW : Program := PySem.Challenge.rw_in0186_01.row.prog
noncomputable def lo : List Str := looseW viewP [Str.ofString "_tuplegetter", Str.ofString "Pair"] ++ List.map (fun x => x.name) (recsOf viewP) ++
        List.map (fun x => x.fst) (litsOf viewP) ++ List.map (fun x => x.name) (clssOf viewP (looseW viewP [Str.ofString "_tuplegetter", Str.ofString "Pair"]))

def Tell (w : World) (f : Addr) (args : List Value) (need : Nat) (news : List (Addr × Obj)) (R : Value → List (Addr × Obj) → Prop) : Prop :=
  ∀ (mean : ExcName → Option Value) (mg mb : Str → Option Value) (dp un : Nat) (gd : Option (List Code)) (cn : Str) (cs : Scope) (a : Addr) (ccd : Value) (cl : List (Str × Addr)) (outer : List Env) (A₀ : Around) (base h₀ : Heap) (L : Addr) (m : Str → Option Value) (s : Shared)
    (Q E : Value → Shared → Prop),
    Below A₀ base outer h₀ → Fr h₀ L s.heap m → (hd.heap_1 w.params).In h₀ → News h₀ L s.heap news → Top topProg lo mean mg mb h₀ → cs.kind = .function → dp + need ≤ 700 → un + 8 * need ≤ 7000 →
    (∀ r news' h' tk', Fr h₀ L h' m → News h₀ L h' news' → R r news' → Q r { s with heap := h', toks := tk' }) →
    wpAny (model PySem.Challenge.rw_in0186_01.row.prog w) (ktrTop dp un gd cn cs L a ccd cl outer) (call (.ref f) args) Q E s
end
section
open PySem PySem.W PyProof.Rows PySem.Calls
set_option Elab.async false
set_option maxRecDepth 100000
set_option maxHeartbeats 8000000
set_option pp.deepTerms false
set_option pp.maxSteps 3000
open PySem.F
theorem slot_map_next : Slot "map" "__next__" "map.__next__" :=
  .of (owner := "map") (n := "__next__") (by rw [typeLookup_type, builtinLookup_eq_fast]; kernel_rfl) (by decide +kernel) (by decide +kernel) (by decide +kernel)
    (by first | exact .inl (by decide +kernel) | exact .inr (by decide +kernel)) (by rw [isSubtype_type]; kernel_rfl)
theorem entry_map_next : entryFor table "map.__next__" = some Builtin.«map.__next__» := entryFor_of_tree (by kernel_rfl)
theorem args_map_next (a : Value) : argsOk "map.__next__" ⟨[a], []⟩ := by unfold argsOk; kernel_rfl
theorem slot_map_iter : Slot "map" "__iter__" "map.__iter__" :=
  .of (owner := "map") (n := "__iter__") (by rw [typeLookup_type, builtinLookup_eq_fast]; kernel_rfl) (by decide +kernel) (by decide +kernel) (by decide +kernel)
    (by first | exact .inl (by decide +kernel) | exact .inr (by decide +kernel)) (by rw [isSubtype_type]; kernel_rfl)
theorem entry_map_iter : entryFor table "map.__iter__" = some Builtin.«dict_keyiterator.__iter__» :=
  entryFor_alias (id' := "dict_keyiterator.__iter__") (by kernel_rfl) (by first | rfl | decide +kernel | (unfold String.splitOn; simp +decide [String.splitOnAux])) (by decide +kernel) (by kernel_rfl)
theorem args_map_iter (a : Value) : argsOk "map.__iter__" ⟨[a], []⟩ := by unfold argsOk; kernel_rfl
theorem map_no_len : typeLookup (.type "map") "__len__" = pure none := by rw [typeLookup_type, builtinLookup_eq_fast]; kernel_rfl
theorem map_no_hint : typeLookup (.type "map") "__length_hint__" = pure none := by rw [typeLookup_type, builtinLookup_eq_fast]; kernel_rfl
abbrev mapObj (T : Addr) (f : Value) : Obj := { cls := .type "map", data := .fields #[.ref T, f] }
abbrev tup1 (v : Value) : Obj := { cls := .type "tuple", data := .seq #[v] }
section
variable {prog : Program} {w : World} {A : Around} {E : Value → Shared → Prop} {s : Shared}
theorem map_next_item {I T LI l : Addr} {i : Nat} {items : Array Value} {x f : Value} {Q : Value → Shared → Prop}
    (hI : s.heap.get? I = some (mapObj T f)) (hT : s.heap.get? T = some (tup1 (.ref LI))) (hit : s.heap.IsListIter LI l i) (hl : s.heap.IsList l items) (hx : items[i]? = some x) (hne : I ≠ LI)
    (hQ : ∀ h', h'.IsListIter LI l (i + 1) → Heap.SameBut LI s.heap h' → wpAny (model prog w) A (call f [x]) Q E { s with heap := h' }) :
    wpAny (model prog w) A (Builtin.«map.__next__» ⟨[.ref I], []⟩) (fun fin s' => ∃ v, fin = .done (.ret v) ∧ Q v s') E s := by
  show wpAny _ _ (field (.ref I) 0 >>= _) _ _ s
  refine wpAny_bind (wpAny_field hI rfl (x := .ref T) rfl ?_)
  show wpAny _ _ (seqItems? (.ref T) >>= _) _ _ s
  refine wpAny_bind (wpAny_seqItems hT rfl ?_)
  dsimp only
  simp only [← Array.forIn_toList, List.forIn_cons, List.forIn_nil, bind_assoc, pure_bind]
  refine wpAny_bind (wpAny_holding (wpAny_nextOf_list_item hit hl hx fun h' hit' hs => ?_))
  have hI' : h'.get? I = some (mapObj T f) := (hs.2 _ hne).trans hI
  refine wpAny_bind (wpAny_field (s := { s with heap := h' }) hI' rfl (x := f) rfl ?_)
  refine wpAny_bind (wpAny_holding (wpAny_mono (hQ h' hit' hs) (fun v s' hv => ?_) fun _ _ z => z))
  exact wpAny_bind (wpAny_letGo (wpAny_pure ⟨_, rfl, hv⟩))
theorem map_next_end {I T LI l : Addr} {i : Nat} {items : Array Value} {f : Value} {Q : Value → Shared → Prop} (hh : A.handled = none)
    (hI : s.heap.get? I = some (mapObj T f)) (hT : s.heap.get? T = some (tup1 (.ref LI))) (hit : s.heap.IsListIter LI l i) (hl : s.heap.IsList l items) (hx : items[i]? = none)
    (hE : ∀ h' e, Heap.ExtBut LI s.heap h' → (∃ o, h'.get? e = some o ∧ o.cls = .type "StopIteration") → E (.ref e) { s with heap := h' }) :
    wpAny (model prog w) A (Builtin.«map.__next__» ⟨[.ref I], []⟩) (fun fin s' => ∃ v, fin = .done (.ret v) ∧ Q v s') E s := by
  show wpAny _ _ (field (.ref I) 0 >>= _) _ _ s
  refine wpAny_bind (wpAny_field hI rfl (x := .ref T) rfl ?_)
  show wpAny _ _ (seqItems? (.ref T) >>= _) _ _ s
  refine wpAny_bind (wpAny_seqItems hT rfl ?_)
  dsimp only
  simp only [← Array.forIn_toList, List.forIn_cons, List.forIn_nil, bind_assoc, pure_bind]
  exact wpAny_bind (wpAny_holding (wpAny_nextOf_list_end hh hit hl hx fun h' e k z => hE h' e k z))

theorem pyNext_map_item {I T LI l : Addr} {i : Nat} {items : Array Value} {x f : Value} {Q : Option Value → Shared → Prop}
    (hI : s.heap.get? I = some (mapObj T f)) (hT : s.heap.get? T = some (tup1 (.ref LI))) (hit : s.heap.IsListIter LI l i) (hl : s.heap.IsList l items) (hx : items[i]? = some x) (hne : I ≠ LI)
    (hQ : ∀ h' (A' : Around), A'.handled = A.handled → h'.IsListIter LI l (i + 1) → Heap.SameBut LI s.heap h' → wpAny (model prog w) A' (call f [x]) (fun v s' => Q (some v) s') (fun _ _ => False) { s with heap := h' }) :
    wpAny (model prog w) A (pyNext (.ref I)) Q E s := by
  have hTy : s.TypeIs (.ref I) "map" := ⟨_, hI, rfl⟩
  unfold pyNext
  refine wpAny_bind (wpAny_attempt (wpAny_callSpecial?_slot (name := Str.ofString "__next__") hTy slot_map_next
    (wpAny_call_entry slot_map_next hTy entry_map_next (wpAny_mono (map_next_item (E := fun _ _ => False) (Q := fun v s' => Q (some v) s') hI hT hit hl hx hne fun h' a b => hQ h' _ rfl a b) (fun fin s' hv => ?_) fun _ _ z => z.elim) (args_map_next _))))
  obtain ⟨v, rfl, hv⟩ := hv
  exact ⟨v, rfl, wpAny_pure hv⟩
theorem pyNext_map_end {I T LI l : Addr} {i : Nat} {items : Array Value} {f : Value} {Q : Option Value → Shared → Prop} (hh : A.handled = none)
    (hI : s.heap.get? I = some (mapObj T f)) (hT : s.heap.get? T = some (tup1 (.ref LI))) (hit : s.heap.IsListIter LI l i) (hl : s.heap.IsList l items) (hx : items[i]? = none)
    (hQ : ∀ h', Heap.ExtBut LI s.heap h' → Q none { s with heap := h' }) : wpAny (model prog w) A (pyNext (.ref I)) Q E s := by
  have hTy : s.TypeIs (.ref I) "map" := ⟨_, hI, rfl⟩
  unfold pyNext
  refine wpAny_bind (wpAny_attempt (wpAny_callSpecial?_slot (name := Str.ofString "__next__") hTy slot_map_next
    (wpAny_call_entry slot_map_next hTy entry_map_next (wpAny_mono (map_next_end (Q := fun _ _ => False) hh hI hT hit hl hx fun h' e k z => ?_) (fun fin s' hv => ?_) fun _ _ z => z) (args_map_next _))))
  · obtain ⟨o, ho, hc⟩ := z
    refine wpAny_bind (wpAny_isInstance (T := "StopIteration") (b := true) ⟨o, ho, hc⟩ isSubtype_stop ?_)
    exact wpAny_pure (hQ _ k)
  · obtain ⟨v, rfl, hv⟩ := hv
    exact hv.elim
abbrev MapSt (I T LI l : Addr) (vs : List Value) (i : Nat) (h : Heap) : Prop :=
  h.get? I = some (mapObj T (.builtin "str.strip")) ∧ h.get? T = some (tup1 (.ref LI)) ∧ h.IsListIter LI l i ∧ h.IsList l vs.toArray
theorem IsListIter.at {h h' : Heap} {it l : Addr} {i : Nat} (x : h.IsListIter it l i) (e : ∀ o, h.get? it = some o → h'.get? it = some o) : h'.IsListIter it l i := let ⟨o, ho, r⟩ := x; ⟨o, e o ho, r⟩
theorem map_walks {I T LI l : Addr} {vs : List Value} {ws : List Str} (hh : A.handled = none) (hw : StrsAre vs ws) (hlen : ∀ x ∈ ws, x.length ≤ sizeLine) (h1 : I ≠ LI) (h2 : T ≠ LI) (h3 : l ≠ LI) :
    Walks prog w A I [I, T, LI, l] [LI] ws.length (fun i v => ∃ x t, ws[i]? = some x ∧ v = .str (Txt.strip x) t) (MapSt I T LI l vs) where
  sub := by intro b hb; simp only [List.mem_singleton] at hb; subst hb; simp
  frame := fun i h h' st k => ⟨k _ (by simp) _ st.1, k _ (by simp) _ st.2.1, st.2.2.1.at fun o e => k _ (by simp) _ e, st.2.2.2.at fun o e => k _ (by simp) _ e⟩
  item := by
    rintro i s Q E hi ⟨a, b, c, d⟩ hQ
    obtain ⟨t, e⟩ := hw.get i ws[i] (List.getElem?_eq_getElem hi)
    refine pyNext_map_item a b c d (x := .str ws[i] t) (by simpa using e) h1 fun h' A' hA hit hs => ?_
    refine SCL.strip (fun t' k _ => ?_) (hlen _ (List.getElem_mem hi))
    exact hQ _ _ _ ⟨_, t', List.getElem?_eq_getElem hi, rfl⟩ ⟨(hs.2 _ h1).trans a, (hs.2 _ h2).trans b, hit, d.at fun o e => (hs.2 _ h3).trans e⟩ fun b o hb e => (hs.2 b (by simpa using hb)).trans e
  done := by
    rintro s Q E ⟨a, b, c, d⟩ hQ
    have hl : vs.length = ws.length := hw.length
    exact pyNext_map_end hh a b c d (Array.getElem?_eq_none (by simp [hl])) fun h' hx => hQ h' s.toks fun b o hb e => hx b o (by simpa using hb) e
  self := by
    rintro i s Q E ⟨a, b, c, d⟩ hQ
    have hT : s.TypeIs (.ref I) "map" := ⟨_, a, rfl⟩
    refine wpAny_pyIter_slot hT slot_map_iter (wpAny_call_entry slot_map_iter hT entry_map_iter ?_ (args_map_iter _))
    show wpAny _ _ (ret (.ref I)) _ _ s
    exact wpAny_pure ⟨_, rfl, "map", _, hT, slot_map_next.lookup, hQ⟩
end
section
variable {prog : Program} {w : World} {A : Around} {E : Value → Shared → Prop} {s : Shared} {I : Addr} {fp wr : List Addr} {G : Array GenState → Array GenState → Prop} {n : Nat} {P : Nat → Value → Prop} {St : Nat → Shared → Prop}
theorem collect_map {Q : List Value → Shared → Prop} (W : WalksS prog w A.in1 I fp wr G n P St) (hT : ∀ i s, St i s → s.TypeIs (.ref I) "map") (hst : St 0 s) (hfp : ∀ b ∈ fp, b < s.heap.objs.size) (hI : I ∈ fp)
    (hQ : ∀ s' acc, Moved wr G s s' → ItemsOf P acc n → Q acc.toList s') (hn : n ≤ sizeLine) : wpAny (model prog w) A (collect (.ref I)) Q E s := by
  have fresh : s.heap.objs.size ∉ fp := fun hm => Nat.lt_irrefl _ (hfp _ hm)
  have diff : s.heap.objs.size ≠ I := fun e => fresh (e ▸ hI)
  unfold collect
  refine wpAny_bind (wpAny_runValue (codeAny_builtin entry_proto_collect ?_))
  rw [Around.under_plainId plain_proto_collect _]
  show wpAny _ A.in1 (newList [] >>= fun l => again (.builtin "list.__iadd__" ⟨[l, .ref I], []⟩)) _ _ s
  refine wpAny_bind (wpAny_newObj_type ?_)
  refine wpAny_pure ⟨plainId_quiet plain_list_iadd _, codeAny_builtin entry_list_iadd ?_⟩
  rw [Around.under_plainId plain_list_iadd _]
  generalize ho : ({ cls := .type "list", data := .seq ([] : List Value).toArray } : Obj) = o
  have st1 := W.frame 0 s (s.heap.push o) s.toks hst (Nat.le_refl _) fun b _ x e => Heap.get?_push_of_some _ e
  show wpAny _ A.in1 (Builtin.List.listExtendWith (.ref s.heap.objs.size) (.ref I) (.ref s.heap.objs.size)) _ _ _
  unfold Builtin.List.listExtendWith
  refine wpAny_bind (wpAny_typeOf (hT 0 _ st1) ?_)
  have e1 : Builtin.List.listSameRef (.ref s.heap.objs.size) (.ref I) = false := by simp [Builtin.List.listSameRef, diff]
  have e2 : (Value.type "map" == Value.type "list") = false := by decide
  have e3 : (Value.type "map" == Value.type "tuple") = false := by decide
  simp only [e1, e2, e3, Bool.or_false, Bool.false_eq_true, if_false]
  refine wpAny_bind (W.self 0 _ _ _ st1 ?_)
  refine wpAny_bind (wpAny_holding ?_)
  unfold Builtin.List.listLengthHint
  refine wpAny_bind (wpAny_specialOf (hT 0 _ st1) map_no_len ?_)
  show wpAny _ A.in1 (specialOf (Value.ref I) (Str.ofString "__length_hint__") >>= _) _ _ _
  refine wpAny_bind (wpAny_specialOf (hT 0 _ st1) map_no_hint ?_)
  refine wpAny_pure ?_
  show wpAny _ A.in1 (rule "list.extend.makes-room" >>= fun _ => Builtin.List.listTouch (.ref s.heap.objs.size) >>= fun _ =>
    again (.builtin "list.extend.loop" ⟨[.ref s.heap.objs.size, .ref I, .ref s.heap.objs.size], []⟩)) _ _ _
  refine wpAny_bind (wpAny_rule ?_)
  have S1 : (s.heap.push o).get? s.heap.objs.size = some { cls := .type "list", data := .seq ([] : List Value).toArray } := by rw [← ho]; exact Heap.get?_push_size _ rfl
  refine wpAny_bind ?_
  show wpAny _ A.in1 (updateSeq s.heap.objs.size (·.push .none) >>= fun _ => updateSeq s.heap.objs.size (·.pop)) _ _ _
  refine wpAny_bind (wpAny_updateSeq S1 rfl ?_)
  have S2 := Heap.get?_update_self (Obj.mapSeq (·.push Value.none)) S1 rfl
  refine wpAny_updateSeq S2 rfl ?_
  have S3 := Heap.get?_update_self (Obj.mapSeq (·.pop)) S2 rfl
  have others : ∀ b x, b ≠ s.heap.objs.size → (s.heap.push o).get? b = some x →
      (((s.heap.push o).update s.heap.objs.size (Obj.mapSeq (·.push Value.none))).update s.heap.objs.size (Obj.mapSeq (·.pop))).get? b = some x :=
    fun b x hb e => (Heap.get?_update_other _ _ (Ne.symm hb)).trans ((Heap.get?_update_other _ _ (Ne.symm hb)).trans e)
  refine wpAny_pure ⟨plainId_quiet plain_extend_loop _, codeAny_extend_loopS W hn _ fresh _ n 0 _ _ _ rfl (Nat.zero_le _)
    (W.frame 0 ({ s with heap := s.heap.push o } : Shared) _ s.toks st1 (Nat.le_refl _) fun b hb x e => others b x (fun h => fresh (h ▸ hb)) e) S3 (ItemsOf.nil P) fun s' acc' c' hm hS' hacc => ?_⟩
  show wpAny _ A (load s.heap.objs.size >>= _) _ _ s'
  refine wpAny_bind (wpAny_load hS' ?_)
  refine wpAny_pure (hQ s' acc' (Moved.drop_new (o := o) (tk := s.toks) (Moved.trans W.gtrans ((Moved.refl W.grefl).then_heap (Nat.le_refl _) fun b x hb e => ?_) hm) (Nat.le_refl _)) hacc)
  exact others b x (fun h => hb (h ▸ List.mem_cons_self)) e
theorem star_map {T LI l : Addr} {vs : List Value} {ws : List Str} {hp : Heap} {gs : Array GenState} {dr : Drawn} {tk : Nat} {os : OsState} {Q : List Value → Shared → Prop} (hh : A.handled = none) (hst : MapSt I T LI l vs 0 hp) (hw : StrsAre vs ws) (hlen : ∀ x ∈ ws, x.length ≤ sizeLine) (h1 : I ≠ LI) (h2 : T ≠ LI) (h3 : l ≠ LI)
    (hn : ws.length ≤ sizeLine) (hQ : ∀ h' tk' (acc : List Value), (∀ b o, b ≠ LI → hp.get? b = some o → h'.get? b = some o) → acc.length = ws.length → (∀ (i : Nat) (x : Str), ws[i]? = some x → ∃ t, acc[i]? = some (Value.str (Txt.strip x) t)) → Q acc ⟨h', gs, dr, tk', os⟩) :
    StarOf (model prog w) A E (.ref I) Q ⟨hp, gs, dr, tk, os⟩ := by
  have hT : (⟨hp, gs, dr, tk, os⟩ : Shared).TypeIs (.ref I) "map" := ⟨_, hst.1, rfl⟩
  unfold StarOf notIterableAtAll
  refine wpAny_bind (wpAny_specialOf hT slot_map_iter.lookup (wpAny_pure ⟨rfl, ?_⟩))
  have lt : ∀ {b o}, hp.get? b = some o → b < hp.objs.size := fun e => Heap.lt_size e
  obtain ⟨a, b, c, d⟩ := id hst
  obtain ⟨oc, hc, _⟩ := id c
  obtain ⟨od, hd, _⟩ := id d
  refine collect_map (map_walks (A := A.in1) hh hw hlen h1 h2 h3).toS (fun i s st => ⟨_, st.1, rfl⟩) hst (fun b hb => ?_) (by simp) (fun s' acc hm hi => ?_) hn
  · simp only [List.mem_cons, List.not_mem_nil, or_false] at hb
    rcases hb with rfl | rfl | rfl | rfl
    · exact lt a
    · exact lt b
    · exact lt hc
    · exact lt hd
  · obtain ⟨h', g', d', t', o'⟩ := s'
    obtain ⟨k1, k2, k3, k4, k5⟩ := hm
    dsimp only at k1 k2 k3 k4 k5
    subst k2 k3 k4
    refine hQ _ _ _ (fun b o hb e => k1 b o (by simpa using hb) e) (by simpa using hi.1) fun i x hx => ?_
    have hi' : i < acc.size := by rw [hi.1]; exact (List.getElem?_eq_some_iff.mp hx).1
    obtain ⟨y, t, e1, e2⟩ := hi.2 i acc[i] (Array.getElem?_eq_getElem hi')
    rw [hx] at e1; cases e1
    exact ⟨t, by rw [Array.getElem?_toList, Array.getElem?_eq_getElem hi', e2]⟩
end
end
section
open PySem PySem.W PyProof.Rows PySem.W.X PySem.Calls
set_option Elab.async false
set_option maxRecDepth 100000
set_option maxHeartbeats 8000000

abbrev A0 : Around := { handled := none, depth := 800, frames := none, guards := none, units := 8000 }
theorem under0 {α : Type} {M : Model} {A : Around} {t : Sem α} {Q : α → Shared → Prop} {E : Value → Shared → Prop} {s : Shared} (hh : A.handled = none) (hd : A.depth ≤ 800) (hu : A.units ≤ 8000) (h : wpAny M A0 t Q E s) : wpAny M A t Q E s :=
  fun Γ p hΓ => h Γ p ⟨hΓ.1.trans hh, Nat.le_trans hΓ.2.1 hd, fun _ e => (nomatch e), fun _ e => (nomatch e), Nat.le_trans hΓ.2.2.2.2 hu⟩
section
variable {h h' h₀ : Heap} {L : Addr} {m : Str → Option Value} {nw news : List (Addr × Obj)}
theorem mem_keep (D : Mem h h' [] nw) : ∀ b o, h.get? b = some o → h'.get? b = some o := fun b o e => D.keep b o e (by simp [away])
theorem keep_fr (k : ∀ b o, h.get? b = some o → h'.get? b = some o) (F : Fr h₀ L h m) : Fr h₀ L h' m := by
  obtain ⟨oL, es, ep, hL, r⟩ := F.ns
  exact ⟨⟨oL, es, ep, k _ _ hL, r⟩, fun b o e => k _ _ (F.keep b o e), F.above⟩
theorem keep_news (k : ∀ b o, h.get? b = some o → h'.get? b = some o) (N : News h₀ L h news) : News h₀ L h' news := fun p hp => ⟨k _ _ (N p hp).1, (N p hp).2⟩
theorem mem_news (D : Mem h h' [] nw) (F : Fr h₀ L h m) (N : News h₀ L h news) : News h₀ L h' (nw ++ news) := fun p hp => by
  rcases List.mem_append.mp hp with hp | hp
  · refine ⟨(D.nw p hp).1, fun e => ?_, ?_⟩
    · obtain ⟨oL, es, ep, hL, r⟩ := F.ns
      have z := (D.nw p hp).2
      rw [e, hL] at z; cases z
    · cases q : h₀.get? p.1 with
      | none => rfl
      | some o => have z := (D.nw p hp).2; rw [F.keep _ _ q] at z; cases z
  · exact keep_news (mem_keep D) N p hp
theorem mem_off (D : Mem h h' [] nw) (N : News h₀ L h news) : ∀ p ∈ nw, ∀ q ∈ news, q.1 ≠ p.1 := fun p hp q hq e => by
  have z := (D.nw p hp).2
  rw [← e, (N q hq).1] at z; cases z
end
structure Ret (P : Prop) : Prop where
  out : P
def pairObj (n v : Str) (t1 t2 : Tok) (d : Addr) : Obj := { cls := .ref 203, dict := some d, data := .seq #[.str n t1, .str v t2] }
section
variable {w : World} {hp : Heap} {gs : Array GenState} {dr : Drawn} {tk : Nat} {os : OsState} {Q E : Value → Shared → Prop}
local macro_rules | `(tactic| x_close) => `(tactic| ((with_reducible rename Ret _ => hr9); (have hz9 := Ret.out hr9); apply hz9; assumption))
theorem x_tuple_new (X : (hd.heap_1 w.params).In hp) {l : Addr} {a b : Str} {ta tb : Tok} (hl : hp.get? l = some { cls := .type "tuple", data := .seq #[.str a ta, .str b tb] })
   (hret : Ret <| ∀ r d nw h' tk', Mem hp h' [] ((r, { cls := .ref 203, dict := some d, data := .seq #[.str a ta, .str b tb] }) :: (d, { cls := .type "dict", data := .dict #[] }) :: nw) → Q (.ref r) ⟨h', gs, dr, tk', os⟩) :
    wpAny (model PySem.Challenge.rw_in0186_01.row.prog w) A0 (call (.builtin "tuple.__new__") [.ref 203, .ref l]) Q E ⟨hp, gs, dr, tk, os⟩ := by
  k_fill
  x_run
end
section
variable {w : World} {hp : Heap} {gs : Array GenState} {dr : Drawn} {tk : Nat} {os : OsState} {Q E : Value → Shared → Prop}
local macro_rules | `(tactic| x_close) => `(tactic| ((with_reducible rename Ret _ => hr9); exact Ret.out hr9))
theorem x_object_init (X : (hd.heap_1 w.params).In hp) {l d : Addr} {a b : Str} {ta tb : Tok} (hl : hp.get? l = some { cls := .ref 203, dict := some d, data := .seq #[.str a ta, .str b tb] })
   {a' b' : Value} {Q : Flow → Shared → Prop} (hret : Ret <| Q (.ret .none) ⟨hp, gs, dr, tk, os⟩) :
    wpAny (model PySem.Challenge.rw_in0186_01.row.prog w) A0 (run (.call (.builtin "object.__init__") ⟨[.ref l, a', b'], []⟩)) Q E ⟨hp, gs, dr, tk, os⟩ := by
  k_fill
  x_run
end
section
variable {w : World} {hp : Heap} {gs : Array GenState} {dr : Drawn} {tk : Nat} {os : OsState} {Q E : Value → Shared → Prop}
local macro_rules | `(tactic| x_close) => `(tactic| ((with_reducible rename Ret _ => hr9); (have hz9 := Ret.out hr9); apply hz9; assumption))
theorem x_map_new (X : (hd.heap_1 w.params).In hp) {l : Addr} {its : Array Value} {n : Nat} (hl : hp.get? l = some { cls := .type "list", data := .seq its n })
   (hret : Ret <| ∀ I T LI h' tk', Mem hp h' [] [(I, mapObj T (.builtin "str.strip")), (T, tup1 (.ref LI)), (LI, { cls := .type "list_iterator", data := .fields #[.ref l, .int 0 0] })] → Q (.ref I) ⟨h', gs, dr, tk', os⟩) :
    wpAny (model PySem.Challenge.rw_in0186_01.row.prog w) A0 (call (.type "map") [.builtin "str.strip", .ref l]) Q E ⟨hp, gs, dr, tk, os⟩ := by
  k_fill
  x_run
end
end
section
open PySem PySem.W PyProof.Rows PySem.W.X PySem.Calls
set_option Elab.async false
set_option maxRecDepth 100000
set_option maxHeartbeats 8000000
section
variable {w : World} {hp : Heap} {gs : Array GenState} {dr : Drawn} {tk : Nat} {os : OsState} {Q E : Value → Shared → Prop}
local macro_rules | `(tactic| x_close) => `(tactic| ((with_reducible rename Ret _ => hr9); exact Ret.out hr9))
theorem x_type (X : (hd.heap_1 w.params).In hp) {x d : Addr} {a b : Str} {ta tb : Tok} (hl : hp.get? x = some { cls := .ref 203, dict := some d, data := .seq #[.str a ta, .str b tb] })
   (hret : Ret <| Q (.ref 203) ⟨hp, gs, dr, tk, os⟩) :
    wpAny (model PySem.Challenge.rw_in0186_01.row.prog w) A0 (call (.type "type") [.ref x]) Q E ⟨hp, gs, dr, tk, os⟩ := by
  k_fill
  x_run
theorem x_issub (X : (hd.heap_1 w.params).In hp) (hret : Ret <| Q (.bool true) ⟨hp, gs, dr, tk, os⟩) :
    wpAny (model PySem.Challenge.rw_in0186_01.row.prog w) A0 (call (.builtin "issubclass") [.ref 203, .type "tuple"]) Q E ⟨hp, gs, dr, tk, os⟩ := by
  k_fill
  x_run
end
section
open AutoSeq1 (wpAny_loadPart')
variable {prog : Program} {w : World} {A : Around} {hp : Heap} {gs : Array GenState} {dr : Drawn} {tk : Nat} {os : OsState} {Q E : Value → Shared → Prop} {K : Frag}
theorem ti_plain : plainId "tuple.__getitem__" = true := by decide +kernel
theorem ti_kind : builtinKind "tuple.__getitem__" = some .slot := by decide +kernel
theorem ti_split : splitId "tuple.__getitem__" = some ("tuple", "__getitem__") := by decide +kernel
theorem tup_item (X : K.In hp) {x d C : Addr} {items : Array Value} {n : Nat} (hl : hp.get? x = some { cls := .ref C, dict := some d, data := .seq items n }) (hs : subIn K (.ref C) (.type "tuple") = some true) {i : Int} {u : Tok} {k : Nat} {y : Value} (hlo : -2 ^ 63 ≤ i) (hhi : i < 2 ^ 63) (hk : seqIndex? i items.size = some k) (hy : items[k]? = some y)
   (hret : Q y ⟨hp, gs, dr, tk, os⟩) :
    wpAny (model prog w) A (call (.builtin "tuple.__getitem__") [.ref x, .int i u]) Q E ⟨hp, gs, dr, tk, os⟩ := by
  have L0 : Looks (model prog w) hp (typeOf (.ref x)) (.ref C) := (Looks.ld hl).andThen .now
  have LS : Looks (model prog w) hp (isInstance (.ref x) (.type "tuple")) true := L0.andThen (looks_subIn X hs)
  refine wpAny_call (codeAny_call_builtin ti_plain F.entry_tuple_getitem ?_)
  refine @check_slot (model prog w) _ _ ⟨hp, gs, dr, tk, os⟩ "tuple.__getitem__" "tuple" "__getitem__" (.ref x) [.int i u] [] _ ti_kind ti_split LS (F.args_tuple_getitem_2 _ _) ?_
  show wpAny _ _ (Builtin.Tuple.tupleItemsOf (.ref x) >>= _) _ _ _
  unfold Builtin.Tuple.tupleItemsOf
  refine wpAny_bind (wpAny_bind (wpAny_seqItems hl rfl (wpAny_pure ?_)))
  refine wpAny_bind (wpAny_typeOf (typeIs_int _ i u) ?_)
  rw [if_neg (by decide)]
  refine wpAny_bind (wpAny_specialOf (T := "int") (typeIs_int _ i u) int_index ?_)
  rw [if_neg (by simp)]
  refine wpAny_bind (wpAny_of_eq (a := i) rfl ?_)
  rw [if_neg (by simp only [Bool.or_eq_true, decide_eq_true_eq]; omega)]
  simp only [hk, Option.bind_some, hy]
  exact wpAny_pure hret
theorem tup_item0 (X : K.In hp) {x d C : Addr} {a b : Value} {n : Nat} (hl : hp.get? x = some { cls := .ref C, dict := some d, data := .seq #[a, b] n }) (hs : subIn K (.ref C) (.type "tuple") = some true) {u : Tok}
   (hret : Q a ⟨hp, gs, dr, tk, os⟩) : wpAny (model prog w) A (call (.builtin "tuple.__getitem__") [.ref x, .int 0 u]) Q E ⟨hp, gs, dr, tk, os⟩ := tup_item X hl hs (k := 0) (by decide) (by decide) rfl rfl hret
theorem tup_item1 (X : K.In hp) {x d C : Addr} {a b : Value} {n : Nat} (hl : hp.get? x = some { cls := .ref C, dict := some d, data := .seq #[a, b] n }) (hs : subIn K (.ref C) (.type "tuple") = some true) {u : Tok}
   (hret : Q b ⟨hp, gs, dr, tk, os⟩) : wpAny (model prog w) A (call (.builtin "tuple.__getitem__") [.ref x, .int 1 u]) Q E ⟨hp, gs, dr, tk, os⟩ := tup_item X hl hs (k := 1) (by decide) (by decide) rfl rfl hret
end
end
section
open PySem PySem.W PyProof.Rows PySem.Calls Builtin Builtin.ObjectAttr
set_option Elab.async false
set_option maxRecDepth 100000
set_option maxHeartbeats 8000000
set_option pp.deepTerms false
set_option pp.maxSteps 3000
structure GaFacts (gaId owner : String) : Prop where
  kind : builtinKind gaId = some .slot
  split : splitId gaId = some (owner, "__getattribute__")
  plain : plainId gaId = true
  entry : entryFor table gaId = some Builtin.«object.__getattribute__»
  bind : ∀ self, bindSpecial (.builtin gaId) self = pure (.builtin gaId, [self])
  args : ∀ a b, argsOk gaId ⟨[a, b], []⟩
  ne : (Value.builtin gaId == Value.builtin "object.__getattribute__") = false
def foundRun (x C : Addr) : Found → Sem Fin
  | .value v => ret v
  | .bind g a => bindTo g a (.ref x) (.ref C)
  | .missing => unsupported "missing"
section
variable {prog : Program} {w : World} {A : Around} {E : Value → Shared → Prop} {h : Heap} {gs : Array GenState} {dr : Drawn} {tk : Nat} {os : OsState} {K : Frag} {x C : Addr} {ox : Obj} {od : Option Obj} {name : Str} {expr : Bool} {Q : Value → Shared → Prop} {gaId owner : String}
theorem getattr_own (G : GaFacts gaId owner) (X : K.In h) (I : InstAt h x ox C od) (hga : findIn K (.ref C) "__getattribute__" = some (some (.builtin gaId))) (hg : findIn K (.ref C) "__getattr__" = some none) (hsub : subIn K (.ref C) (.type owner) = some true) {r : Found} (hm : r ≠ .missing)
    (hf : findObj K C od name = some r)
    (hh : wpAny (model prog w) A.in1 (foundRun x C r) (fun fin s' => match fin with | .done (.ret v) => wpAny (model prog w) A (handedOut v) Q E s' | _ => False) (fun _ _ => False) ⟨h, gs, dr, tk + 1, os⟩) :
    wpAny (model prog w) A (getAttr (.ref x) name expr) Q E ⟨h, gs, dr, tk, os⟩ := by
  have L0 := I.type (M := model prog w)
  have L1 := looks_findIn (M := model prog w) X hga
  have L2 := looks_findIn (M := model prog w) X hg
  have LS : Looks (model prog w) h (isInstance (.ref x) (.type owner)) true := L0.andThen (looks_subIn X hsub)
  have LF := looks_find (M := model prog w) X I hf
  unfold getAttr getAttrBy
  refine wpAny_bind (wpAny_mkText (wpAny_holding (wpAny_bind (L0.at (wpAny_bind (L1.at ?_))))))
  dsimp only
  rw [G.ne, Bool.and_false, if_neg (by decide)]
  unfold getAttrByItsOwn hookBefore
  rw [if_pos (show onTheHeap (.ref C) = true from rfl)]
  refine wpAny_bind (L2.at (wpAny_bind (wpAny_attempt (wpAny_holding ?_))))
  unfold callGetattribute
  rw [show (expr && onTheHeap (Value.builtin gaId)) = false from Bool.and_false _, if_neg (by decide)]
  unfold boundAndCalled
  rw [G.bind]
  refine wpAny_bind (wpAny_pure ?_)
  show wpAny _ _ (call (.builtin gaId) [.ref x, .str name tk]) _ _ _
  refine wpAny_call (codeAny_call_builtin G.plain G.entry ?_)
  refine check_slot G.kind G.split LS (G.args _ _) ?_
  show wpAny _ _ (typeOf (.ref x) >>= _) _ _ _
  refine wpAny_bind (L0.at ?_)
  refine wpAny_bind (LF.at ?_)
  cases r with
  | missing => exact absurd rfl hm
  | value v => exact wpAny_mono hh (fun fin s' z => by rcases fin with (_ | _ | _ | _) | _ <;> first | exact z | exact z.elim) fun _ _ z => z.elim
  | bind g a => exact wpAny_mono hh (fun fin s' z => by rcases fin with (_ | _ | _ | _) | _ <;> first | exact z | exact z.elim) fun _ _ z => z.elim
end
theorem ga_tuple : GaFacts "tuple.__getattribute__" "tuple" where
  kind := by decide +kernel
  split := by decide +kernel
  plain := by decide +kernel
  entry := entryFor_alias (id' := "object.__getattribute__") (by kernel_rfl) (by first | rfl | decide +kernel | (unfold String.splitOn; simp +decide [String.splitOnAux])) (by decide +kernel) (by kernel_rfl)
  bind := fun self => (Slot.of (T := "tuple") (name := "__getattribute__") (owner := "tuple") (n := "__getattribute__") (by rw [typeLookup_type, builtinLookup_eq_fast]; kernel_rfl) (by decide +kernel) (by decide +kernel) (by decide +kernel)
    (.inl (by decide +kernel)) (by rw [isSubtype_type]; kernel_rfl)).bind self
  args := fun a b => by unfold argsOk; kernel_rfl
  ne := by decide +kernel
end
section
open PySem PySem.W PyProof.Rows PySem.Calls
set_option Elab.async false
set_option maxRecDepth 100000
set_option maxHeartbeats 8000000
set_option pp.deepTerms false
set_option pp.maxSteps 3000
abbrev PG : Program := PySem.Challenge.pw_in0186_01
abbrev Ent := Str × Tok × Addr
def entOf (w : World) (e : Ent) : DictEntry := ⟨hashStr w e.1, .str e.1 e.2.1, .ref e.2.2⟩
def bookO (w : World) (es : List Ent) (ep : Nat) (d : Addr) : Obj := { cls := .ref 108, dict := some d, data := .dict (es.map (entOf w)).toArray ep, slots := #[some (.type "list")] }
def atE (es : List Ent) (k : Str) : Option Addr := (es.find? fun e => decide (e.1 = k)).map (·.2.2)
section
variable {prog : Program} {w : World} {es : List Ent} {k : Str}
theorem ent_is (e : Ent) : (strKind prog w).is k (entOf w e).key = decide (e.1 = k) := by
  show Value.isStrOf k (.str e.1 e.2.1) = _
  unfold Value.isStrOf
  simp only
  first | rfl | (by_cases h : e.1 = k <;> simp [h])
theorem ent_keys : KeysOf (strKind prog w) (es.map (entOf w)).toArray := by
  intro e he
  simp only [List.mem_toArray, List.mem_map] at he
  obtain ⟨x, _, rfl⟩ := he
  exact ⟨x.1, by rw [ent_is]; simp, rfl⟩
theorem ent_idx : ((es.map (entOf w)).toArray.findIdx? fun e => (strKind prog w).is k e.key) = es.findIdx? fun e => decide (e.1 = k) := by
  rw [List.findIdx?_toArray, List.findIdx?_map]
  have : ((fun e : DictEntry => (strKind prog w).is k e.key) ∘ entOf w) = fun e : Ent => decide (e.1 = k) := funext fun e => ent_is e
  rw [this]
theorem idx_at {i : Nat} (hi : (es.findIdx? fun e => decide (e.1 = k)) = some i) : ∃ e, es[i]? = some e ∧ e.1 = k ∧ atE es k = some e.2.2 := by
  induction es generalizing i with
  | nil => simp at hi
  | cons a r ih =>
    rw [List.findIdx?_cons] at hi
    by_cases h : a.1 = k
    · simp only [h, decide_true, if_true, Option.some.injEq] at hi
      subst hi
      exact ⟨a, rfl, h, by simp [atE, h]⟩
    · simp only [h, decide_false, Bool.false_eq_true, if_false] at hi
      cases hj : r.findIdx? (fun e => decide (e.1 = k)) with
      | none => rw [hj] at hi; simp at hi
      | some j =>
        rw [hj] at hi
        simp only [Option.map_some, Option.some.injEq] at hi
        subst hi
        obtain ⟨e, h1, h2, h3⟩ := ih hj
        exact ⟨e, by simpa using h1, h2, by simp [atE, h] at h3 ⊢; exact h3⟩
theorem idx_none (hn : atE es k = none) : (es.findIdx? fun e => decide (e.1 = k)) = none := by
  cases h : es.findIdx? fun e => decide (e.1 = k) with
  | none => rfl
  | some i => obtain ⟨e, _, _, h3⟩ := idx_at h; rw [hn] at h3; cases h3
theorem idx_some {l : Addr} (hs : atE es k = some l) : ∃ i e, (es.findIdx? fun e => decide (e.1 = k)) = some i ∧ es[i]? = some e ∧ e.1 = k ∧ e.2.2 = l := by
  cases h : es.findIdx? fun e => decide (e.1 = k) with
  | none =>
    rw [List.findIdx?_eq_none_iff] at h
    unfold atE at hs
    rw [List.find?_eq_none.mpr (fun x hx => by simpa using h x hx)] at hs
    cases hs
  | some i =>
    obtain ⟨e, h1, h2, h3⟩ := idx_at h
    rw [hs] at h3
    exact ⟨i, e, rfl, h1, h2, (Option.some.inj h3).symm⟩
end
section
variable {prog : Program} {w : World} {A : Around} {E : Value → Shared → Prop} {h : Heap} {gs : Array GenState} {dr : Drawn} {tk : Nat} {os : OsState} {es : List Ent} {ep : Nat} {b d : Addr} {k : Str} {t : Tok}
theorem book_dictGet {Q : Option Value → Shared → Prop} (hb : h.get? b = some (bookO w es ep d)) (hq : Q ((atE es k).map Value.ref) ⟨h, gs, dr, tk + 1, os⟩) : wpAny (model prog w) A (dictGet b (.str k t)) Q E ⟨h, gs, dr, tk, os⟩ := by
  have hkey : (strKind prog w).is k (.str k t) = true := by show Value.isStrOf k (.str k t) = true; simp [Value.isStrOf]
  unfold dictGet
  refine wpAny_holding (wpAny_bind ((strKind prog w).pyHash hkey (wpAny_bind (wpAny_dictFind_of (knd := strKind prog w) hkey hb rfl ent_keys ?_))))
  rw [ent_idx]
  cases ha : atE es k with
  | none => rw [idx_none ha]; rw [ha] at hq; exact wpAny_pure hq
  | some l =>
    obtain ⟨i, e, h1, h2, h3, h4⟩ := idx_some ha
    rw [h1]
    refine wpAny_bind (wpAny_dictEntries hb rfl (wpAny_pure ?_))
    rw [ha] at hq
    simpa [h2, entOf, h4] using hq
end
theorem gi_plain : plainId "dict.__getitem__" = true := by decide +kernel
theorem gi_kind : builtinKind "dict.__getitem__" = some .slot ∨ builtinKind "dict.__getitem__" = some .method := by first | exact .inl (by decide +kernel) | exact .inr (by decide +kernel)
theorem gi_split : splitId "dict.__getitem__" = some ("dict", "__getitem__") := by decide +kernel
theorem gi_args (a b : Value) : argsOk "dict.__getitem__" ⟨[a, b], []⟩ := by unfold argsOk; kernel_rfl
theorem gi_bind (self : Value) : bindSpecial (.builtin "dict.__getitem__") self = pure (.builtin "dict.__getitem__", [self]) := slot_dict_getitem.bind self
theorem check_meth {M : Model} {A : Around} {E : Value → Shared → Prop} {s : Shared} {i owner n : String} {self : Value} {rest : List Value} {Q : Unit → Shared → Prop}
    (hk : builtinKind i = some .slot ∨ builtinKind i = some .method) (hs : splitId i = some (owner, n)) (hi : Looks M s.heap (isInstance self (.type owner)) true) (ha : argsOk i ⟨self :: rest, []⟩) (q : Q () s) :
    wpAny M A (checkBuiltinCall i ⟨self :: rest, []⟩) Q E s := by
  rcases hk with hk | hk <;>
  · simp only [checkBuiltinCall, hk, hs]
    refine wpAny_bind (hi.here ?_)
    simp only [Bool.not_true, Bool.false_eq_true, if_false]
    cases hsig : Manifest.signature? i with
    | none => exact wpAny_pure q
    | some sig =>
      simp only [argsOk, hsig] at ha
      have h2 : Bind.checkArgs i sig ⟨self :: rest, []⟩ = pure () := ha
      show wpAny M A (Bind.checkArgs i sig ⟨self :: rest, []⟩) Q E s
      rw [h2]; exact wpAny_pure q
section
variable {w : World} {A : Around} {E : Value → Shared → Prop} {h : Heap} {gs : Array GenState} {dr : Drawn} {tk : Nat} {os : OsState} {es : List Ent} {ep : Nat} {b d : Addr} {k : Str} {t : Tok}
theorem book_item {Q : Value → Shared → Prop} (X : (hd.heap_1 w.params).In h) (hs : (b == sysModules) = false) (hb : h.get? b = some (bookO w es ep d))
    (hit : ∀ l, atE es k = some l → Q (.ref l) ⟨h, gs, dr, tk + 1, os⟩)
    (miss : atE es k = none → codeAny (model PySem.Challenge.rw_in0186_01.row.prog w) A.in1 (.call (.ref 98) ⟨[.ref b, .str k t], []⟩) (wants Q E) ⟨h, gs, dr, tk + 1, os⟩) :
    wpAny (model PySem.Challenge.rw_in0186_01.row.prog w) A (getItem (.ref b) (.str k t)) Q E ⟨h, gs, dr, tk, os⟩ := by
  revert X; k_fill; intro X
  have T0 : Looks (model PySem.Challenge.rw_in0186_01.row.prog w) h (typeOf (.ref b)) (.ref 108) := (Looks.ld hb).andThen .now
  have L1 : Looks (model PySem.Challenge.rw_in0186_01.row.prog w) h (typeLookup (.ref 108) "__getitem__") (some (.builtin "dict.__getitem__")) := looks_findIn X (by k_is)
  have L2 : Looks (model PySem.Challenge.rw_in0186_01.row.prog w) h (typeLookup (.ref 108) "__missing__") (some (.ref 98)) := looks_findIn X (by k_is)
  have LS : Looks (model PySem.Challenge.rw_in0186_01.row.prog w) h (isInstance (.ref b) (.type "dict")) true := T0.andThen (looks_subIn X (by k_is))
  have B1 : Looks (model PySem.Challenge.rw_in0186_01.row.prog w) h (bindSpecial (.builtin "dict.__getitem__") (.ref b)) (.builtin "dict.__getitem__", [.ref b]) := Looks.of_pure (gi_bind _)
  have B2 : Looks (model PySem.Challenge.rw_in0186_01.row.prog w) h (bindSpecial (.ref 98) (.ref b)) (.ref 98, [.ref b]) := bind_fn X _ (by k_is)
  unfold getItem sequenceKey
  refine wpAny_holding (wpAny_bind (wpAny_bind (T0.at ?_)))
  have NS : noSeq (hd.heap_1 w.params) 108 = true := by k_is
  refine wpAny_bind ((anyM_none (K := hd.heap_1 w.params) (C := 108) X NS).at ?_)
  rw [if_pos (show (!false) = true from rfl)]
  refine wpAny_pure (wpAny_bind ?_)
  unfold callSpecial? specialOf
  repeat lk
  refine (wpAny_run (c := .call (.builtin "dict.__getitem__") ⟨[.ref b, .str k t], []⟩) (h := none) ?_ : wpAny _ _ (run _ none) _ _ _)
  refine codeAny_call_builtin gi_plain entry_dict_getitem ?_
  refine @check_meth (model PySem.Challenge.rw_in0186_01.row.prog w) _ _ ⟨h, gs, dr, tk, os⟩ "dict.__getitem__" "dict" "__getitem__" (.ref b) [.str k t] _ gi_kind gi_split LS (gi_args _ _) ?_
  show wpAny _ _ (dictGet b (.str k t) >>= _) _ _ _
  refine wpAny_bind (book_dictGet hb ?_)
  cases ha : atE es k with
  | some l =>
    exact wpAny_pure (wpAny_pure (wpAny_pure (wpAny_pure (hit l ha))))
  | none =>
    show wpAny _ _ (Builtin.Dict.missed b (.str k t) >>= _) _ _ _
    refine wpAny_bind (wpAny_missed_other hs ?_)
    refine wpAny_bind (T0.at ?_)
    rw [if_pos (by decide)]
    refine wpAny_bind ?_
    unfold callSpecial? specialOf
    repeat lk
    refine (wpAny_run (c := .call (.ref 98) ⟨[.ref b, .str k t], []⟩) (h := none) ?_ : wpAny _ _ (run _ none) _ _ _)
    refine codeAny_mono (miss ha) fun r s' z => ?_
    rcases r with e | f
    · exact z
    cases f with
    | next => exact z.elim
    | brk => exact z.elim
    | cont => exact z.elim
    | ret v =>
      refine wpAny_pure (wpAny_pure ?_)
      exact wpAny_bind (wpAny_rule (wpAny_pure (wpAny_pure (wpAny_pure (wpAny_pure z)))))
end
end
section
open PySem PySem.W PyProof.Rows PySem.W.X PySem.Calls
set_option Elab.async false
set_option maxRecDepth 100000
set_option maxHeartbeats 8000000
def frozenDict (t : Tok) (fn : Addr) (w : World) (ep : Nat) : Obj := { cls := .type "dict", data := .dict #[⟨hashStr w "_frozen", .str "_frozen" t, .ref fn⟩] ep }
section
variable {w : World} {hp : Heap} {gs : Array GenState} {dr : Drawn} {tk : Nat} {os : OsState} {Q E : Value → Shared → Prop}
local macro_rules | `(tactic| x_close) => `(tactic| ((with_reducible rename Ret _ => hr9); (have hz9 := Ret.out hr9); first | exact hz9 _ | exact hz9 | (apply hz9; assumption) | exact hz9 [] _ _ (Mem.start _)))
theorem x_getattr0 (X : (hd.heap_1 w.params).In hp) {b d : Addr} {es : Array DictEntry} {ep : Nat} {t : Tok} {dv : Value} (hb : hp.get? b = some { cls := .ref 108, dict := some d, data := .dict es ep, slots := #[some (.type "list")] }) (hd' : hp.get? d = some { cls := .type "dict", data := .dict #[] 0 })
   (hret : Ret <| ∀ nw h' tk', Mem hp h' [] nw → Q dv ⟨h', gs, dr, tk', os⟩) :
    wpAny (model PySem.Challenge.rw_in0186_01.row.prog w) A0 (call (.builtin "getattr") [.ref b, .str (Str.ofString "_frozen") t, dv]) Q E ⟨hp, gs, dr, tk, os⟩ := by
  k_fill
  x_run
theorem x_getattr1 (X : (hd.heap_1 w.params).In hp) {b d fn : Addr} {es : Array DictEntry} {ep ep2 : Nat} {t t2 : Tok} {dv : Value} (hb : hp.get? b = some { cls := .ref 108, dict := some d, data := .dict es ep, slots := #[some (.type "list")] }) (hd' : hp.get? d = some { cls := .type "dict", data := .dict #[⟨hashStr w (Str.ofString "_frozen"), .str (Str.ofString "_frozen") t2, .ref fn⟩] ep2 })
   {of : Obj} (hf : hp.get? fn = some of) (hfc : of.cls = .type "function")
   (hret : Ret <| ∀ nw h' tk', Mem hp h' [] nw → Q (.ref fn) ⟨h', gs, dr, tk', os⟩) :
    wpAny (model PySem.Challenge.rw_in0186_01.row.prog w) A0 (call (.builtin "getattr") [.ref b, .str (Str.ofString "_frozen") t, dv]) Q E ⟨hp, gs, dr, tk, os⟩ := by
  k_fill
  x_run
theorem x_mget (X : (hd.heap_1 w.params).In hp) {b d : Addr} {es : Array DictEntry} {ep : Nat} (hb : hp.get? b = some { cls := .ref 108, dict := some d, data := .dict es ep, slots := #[some (.type "list")] })
   (hret : Ret <| ∀ r nw h' tk', Mem hp h' [] ((r, { cls := .type "builtin_function_or_method", data := .fields #[.builtin "collections.defaultdict.__missing__", .ref b]}) :: nw) → Q (.ref r) ⟨h', gs, dr, tk', os⟩) :
    wpAny (model PySem.Challenge.rw_in0186_01.row.prog w) A0 (call (.builtin "method_descriptor.__get__") [.builtin "collections.defaultdict.__missing__", .ref b, .ref 108]) Q E ⟨hp, gs, dr, tk, os⟩ := by
  k_fill
  x_run
theorem x_dlist (hret : Ret <| ∀ r nw h' tk', Mem hp h' [] ((r, { cls := .type "list", data := .seq #[]}) :: nw) → Q (.ref r) ⟨h', gs, dr, tk', os⟩) :
    wpAny (model PySem.Challenge.rw_in0186_01.row.prog w) A0 (call (.type "list") []) Q E ⟨hp, gs, dr, tk, os⟩ := by
  x_run
end
end
section
open PySem PySem.W PyProof.Rows PySem.Calls
set_option Elab.async false
set_option maxRecDepth 100000
set_option maxHeartbeats 400000
set_option pp.deepTerms false
set_option pp.maxSteps 3000
open PySem.W.X (Mem)
section
variable {w : World} {A : Around} {h : Heap} {gs : Array GenState} {dr : Drawn} {tk : Nat} {os : OsState} {E : Value → Shared → Prop}
def boundMiss (b : Addr) : Obj := { cls := .type "builtin_function_or_method", data := .fields #[.builtin "collections.defaultdict.__missing__", .ref b]}
theorem super_ga {so b d : Addr} {es : Array DictEntry} {ep : Nat} {t : Tok} {Q : Fin → Shared → Prop} (hh : A.handled = none) (hdp : A.depth ≤ 800) (hun : A.units ≤ 8000) (X : (hd.heap_1 w.params).In h)
    (hb : h.get? b = some { cls := .ref 108, dict := some d, data := .dict es ep, slots := #[some (.type "list")] }) 
    (hso : h.get? so = some (ks_superObj 108 b 108)) (hbC : b ≠ 108)
    (hq : ∀ r nw h' tk', Mem h h' [] ((r, boundMiss b) :: nw) → Q (.done (.ret (.ref r))) ⟨h', gs, dr, tk', os⟩) :
    wpAny (model PySem.Challenge.rw_in0186_01.row.prog w) A (Builtin.«super.__getattribute__» ⟨[.ref so, .str (Str.ofString "__missing__") t], []⟩) Q E ⟨h, gs, dr, tk, os⟩ := by
  revert X; k_fill; intro X
  have hno : Looks (model PySem.Challenge.rw_in0186_01.row.prog w) h (opaqueClassAbove (.ref 108)) none := looks_opaque X (by k_is)
  have hC : Looks (model PySem.Challenge.rw_in0186_01.row.prog w) h (mroOf (.ref 108)) [.ref 108, .type "collections.defaultdict", .type "dict", .type "object"] := by
    obtain ⟨cd, hc⟩ : ∃ cd, clsIn (hd.heap_1 w.params) 108 = some cd := ⟨_, rfl⟩
    have hmro : cd.mro = [.ref 108, .type "collections.defaultdict", .type "dict", .type "object"] := by
      have : some cd = clsIn (hd.heap_1 w.params) 108 := hc.symm
      have e : (clsIn (hd.heap_1 w.params) 108).map (·.mro) = some [.ref 108, .type "collections.defaultdict", .type "dict", .type "object"] := rfl
      rw [← this] at e
      exact Option.some.inj e
    rw [← hmro]
    exact (looks_clsIn X hc).andThen .now
  have hf : alongIn (hd.heap_1 w.params) "__missing__" [.type "collections.defaultdict", .type "dict", .type "object"] = some (some (.builtin "collections.defaultdict.__missing__")) := by first | rfl | kernel_rfl
  have hne : (Value.ref b == Value.ref 108) = false := by simp [hbC]
  have hdt : (ks_superObj 108 b 108).data = .fields #[.ref 108, .ref b, .ref 108] := rfl
  have f0 : (#[.ref 108, .ref b, .ref 108] : Array Value)[0]? = some (.ref 108) := rfl
  have f1 : (#[.ref 108, .ref b, .ref 108] : Array Value)[1]? = some (.ref b) := rfl
  have f2 : (#[.ref 108, .ref b, .ref 108] : Array Value)[2]? = some (.ref 108) := rfl
  have hn : ((Str.ofString "__missing__") == ("__class__" : Str)) = false := by decide
  have T1 : Looks (model PySem.Challenge.rw_in0186_01.row.prog w) h (typeOf (.builtin "collections.defaultdict.__missing__")) (.type "method_descriptor") := Looks.of_pure (by kernel_rfl)
  have T2 : Looks (model PySem.Challenge.rw_in0186_01.row.prog w) h (typeLookup (.type "method_descriptor") "__get__") (some (.builtin "method_descriptor.__get__")) := Looks.of_pure (by rw [typeLookup_type, builtinLookup_eq_fast]; kernel_rfl)
  have hl : (([.ref 108, .type "collections.defaultdict", .type "dict", .type "object"] : List Value).dropWhile (· != .ref 108)).drop 1 = [.type "collections.defaultdict", .type "dict", .type "object"] := by decide
  unfold Builtin.«super.__getattribute__»
  repeat (first
    | (with_reducible refine wpAny_field hso hdt f0 ?_) | (with_reducible refine wpAny_field hso hdt f1 ?_) | (with_reducible refine wpAny_field hso hdt f2 ?_)
    | (with_reducible refine ks_wpAny_notOpaque hno ?_)
    | (with_reducible refine Looks.at hC ?_; rw [hl])
    | (with_reducible refine ks_forIn_along X (fun _ _ => rfl) rfl ?_ hf)
    | (with_reducible refine Looks.at T1 ?_)
    | (with_reducible refine Looks.at T2 ?_)
    | ((with_reducible show wpAny _ _ (call (.builtin "method_descriptor.__get__") _) _ _ _); refine under0 hh hdp hun (x_mget X hb ⟨fun r nw h' tk' D => ?_⟩))
    | (simp only [hn, hne, Bool.or_false, Bool.false_eq_true, if_false])
    | wp_step
    | dsimp only)
  exact hq _ _ _ _ (by assumption)
end
end
section
open PySem PySem.W PyProof.Rows PySem.Calls
open PySem.W.X (Mem)
set_option Elab.async false
set_option maxRecDepth 100000
set_option maxHeartbeats 1000000
set_option pp.deepTerms false
set_option pp.maxSteps 3000
structure Grew (h h' : Heap) (b : Addr) (ob : Obj) (nw : List (Addr × Obj)) : Prop where
  at_ : h'.get? b = some ob
  keep : ∀ x o, x ≠ b → h.get? x = some o → h'.get? x = some o
  nw : ∀ p ∈ nw, h'.get? p.1 = some p.2 ∧ h.get? p.1 = none
section
variable {prog : Program} {w : World} {A : Around} {E : Value → Shared → Prop} {h : Heap} {gs : Array GenState} {dr : Drawn} {tk : Nat} {os : OsState} {es : List Ent} {ep : Nat} {b d : Addr} {k : Str} {t : Tok}
theorem book_setDefault {l : Addr} {Q : Value → Shared → Prop} (hb : h.get? b = some (bookO w es ep d)) (hz : es.length ≤ sizeLine)
    (there : ∀ l', atE es k = some l' → Q (.ref l') ⟨h, gs, dr, tk + 1, os⟩)
    (new : atE es k = none → ∀ h', h'.get? b = some (bookO w (es ++ [(k, t, l)]) (ep + 1) d) → Heap.SameBut b h h' → Q (.ref l) ⟨h', gs, dr, tk + 1, os⟩) :
    wpAny (model prog w) A (dictSetDefault b (.str k t) (.ref l)) Q E ⟨h, gs, dr, tk, os⟩ := by
  have hkey : (strKind prog w).is k (.str k t) = true := by show Value.isStrOf k (.str k t) = true; simp [Value.isStrOf]
  unfold dictSetDefault
  refine wpAny_holding (wpAny_bind ((strKind prog w).pyHash hkey (wpAny_bind (wpAny_dictFind_of (knd := strKind prog w) hkey hb rfl ent_keys ?_))))
  rw [ent_idx]
  cases ha : atE es k with
  | some l' =>
    obtain ⟨i, e, h1, h2, h3, h4⟩ := idx_some ha
    rw [h1]
    refine wpAny_bind (wpAny_dictEntries hb rfl ?_)
    have : (es.map (entOf w)).toArray[i]? = some (entOf w e) := by simp [h2]
    rw [this]
    refine wpAny_bind (wpAny_rule (wpAny_pure ?_))
    have := there l' ha
    rw [← h4] at this
    exact this
  | none =>
    rw [idx_none ha]
    refine wpAny_bind (wpAny_rule (wpAny_bind (wpAny_updateDictKeys (hz := by simpa using hz) hb rfl (wpAny_pure (new ha _ ?_ (Heap.SameBut.update ..))))))
    rw [Heap.get?_update_self _ hb (Obj.isFreed_of_dict (Obj.data_mapDictKeys rfl _))]
    simp [Obj.mapDictKeys, bookO, entOf]
    rfl
end
section
open PySem.W.X
variable {w : World} {hp : Heap} {gs : Array GenState} {dr : Drawn} {tk : Nat} {os : OsState} {Q E : Value → Shared → Prop}
local macro_rules | `(tactic| x_close) => `(tactic| ((with_reducible rename Ret _ => hr9); (have hz9 := Ret.out hr9); first | exact hz9 _ | exact hz9 | (apply hz9; assumption)))
theorem x_dlistB (hret : Ret <| ∀ r nw h' tk', Mem hp h' [] ((r, { cls := .type "list", data := .seq #[]}) :: nw) → Q (.ref r) ⟨h', gs, dr, tk', os⟩) :
    wpAny (model PySem.Challenge.rw_in0186_01.row.prog w) A0 (callBorrowed (.type "list") []) Q E ⟨hp, gs, dr, tk, os⟩ := by
  unfold callBorrowed
  x_run
end
end
section
open PySem PySem.W PyProof.Rows PySem.Calls
open PySem.W.X (Mem)
set_option Elab.async false
set_option maxRecDepth 100000
set_option maxHeartbeats 1000000
set_option pp.deepTerms false
set_option pp.maxSteps 3000
theorem mi_plain : plainId "collections.defaultdict.__missing__" = true := by decide +kernel
theorem mi_kind : builtinKind "collections.defaultdict.__missing__" = some .method := by decide +kernel
theorem mi_split : splitId "collections.defaultdict.__missing__" = some ("collections.defaultdict", "__missing__") := by decide +kernel
theorem mi_entry : entryFor table "collections.defaultdict.__missing__" = some Builtin.«collections.defaultdict.__missing__» := entryFor_of_tree (by kernel_rfl)
theorem mi_var : Manifest.varargsMethods.contains "collections.defaultdict.__missing__" = false := by decide +kernel
theorem mi_bind : Bind.lastOf "collections.defaultdict.__missing__" = "__missing__" := by decide +kernel
theorem mi_sig : Manifest.signature? "collections.defaultdict.__missing__" = some ⟨.oneArg, "defaultdict.__missing__", "__missing__", .self, [⟨"object", .posOnly, true⟩]⟩ := by kernel_rfl
theorem mi_args (a b : Value) : Bind.checkArgs "collections.defaultdict.__missing__" ⟨.oneArg, "FreezableDefaultDict.__missing__", "__missing__", .self, [⟨"object", .posOnly, true⟩]⟩ ⟨[a, b], []⟩ = pure () := by kernel_rfl
theorem sd_kind : builtinKind "dict.setdefault" = some .slot ∨ builtinKind "dict.setdefault" = some .method := .inr (by decide +kernel)
section
variable {w : World} {A : Around} {h : Heap} {gs : Array GenState} {dr : Drawn} {tk : Nat} {os : OsState} {E : Value → Shared → Prop} {es : List Ent} {ep : Nat} {b d : Addr} {k : Str} {t : Tok}
theorem book_kad {M : Model} {nm : String} {key dv : Value} {Q : Addr × Value × Option Value → Shared → Prop} (hn : ["clear", "keys", "values", "items", "popitem", "__reversed__", "__iter__", "__repr__", "pop", "setdefault", "update", "__init__", "__setitem__", "__delitem__", "__ior__"].contains nm = true)
    (T : Looks M h (typeOf (.ref b)) (.ref 108)) (LO : Looks M h (isInstance (.ref b) (.type "collections.OrderedDict")) false) (q : Q (b, key, some dv) ⟨h, gs, dr, tk, os⟩) :
    wpAny M A (Builtin.Dict.keyAndDefault nm ⟨[.ref b, key, dv], []⟩) Q E ⟨h, gs, dr, tk, os⟩ := by
  unfold Builtin.Dict.keyAndDefault Builtin.Dict.notOrdered Builtin.Dict.nameIsSure
  rw [if_pos hn]
  refine wpAny_bind (wpAny_bind (T.at ?_))
  rw [if_pos (by decide)]
  refine wpAny_bind (LO.at ?_)
  rw [if_neg (by decide)]
  refine wpAny_pure (wpAny_bind ?_)
  rw [if_neg (fun h => by cases h)]
  refine wpAny_pure (wpAny_bind ?_)
  unfold selfAndSome noKeywords
  refine wpAny_bind ?_
  refine (show wpAny _ _ (pure ()) _ _ _ from wpAny_pure ?_)
  dsimp only
  refine wpAny_bind ?_
  show wpAny _ _ (checkCount nm 1 2 2) _ _ _
  unfold checkCount
  rw [if_neg (by decide)]
  dsimp only
  rw [if_neg (by decide), if_neg (by decide)]
  refine wpAny_pure (wpAny_pure ?_)
  dsimp only
  unfold Builtin.Dict.addrOf
  exact wpAny_bind (wpAny_pure (wpAny_pure q))
theorem miss_call {r : Addr} {Q : Value → Shared → Prop} (hh : A.handled = none) (hdp : A.depth ≤ 700) (hun : A.units ≤ 7000) (X : (hd.heap_1 w.params).In h) (hs : (b == sysModules) = false)
    (hb : h.get? b = some (bookO w es ep d)) (hz : es.length ≤ sizeLine) (hr : h.get? r = some (boundMiss b)) (ha : atE es k = none)
    (hq : ∀ l h' tk', Grew h h' b (bookO w (es ++ [(k, t, l)]) (ep + 1) d) [(l, { cls := .type "list", data := .seq #[] })] → Q (.ref l) ⟨h', gs, dr, tk', os⟩) :
    wpAny (model PySem.Challenge.rw_in0186_01.row.prog w) A (call (.ref r) [.str k t]) Q E ⟨h, gs, dr, tk, os⟩ := by
  revert X; k_fill; intro X
  have T0 : Looks (model PySem.Challenge.rw_in0186_01.row.prog w) h (typeOf (.ref b)) (.ref 108) := (Looks.ld hb).andThen .now
  have LM : Looks (model PySem.Challenge.rw_in0186_01.row.prog w) h (isInstance (.ref b) (.type "module")) false := T0.andThen (looks_subIn X (by k_is))
  have TC : Looks (model PySem.Challenge.rw_in0186_01.row.prog w) h (typeOf (.ref 108)) (.type "type") := looks_typeIn X (by k_is)
  have LD : Looks (model PySem.Challenge.rw_in0186_01.row.prog w) h (isInstance (.ref b) (.type "collections.defaultdict")) true := T0.andThen (looks_subIn X (by k_is))
  obtain ⟨cd, hc⟩ : ∃ cd, clsIn (hd.heap_1 w.params) 108 = some cd := ⟨_, rfl⟩
  have hqual : cd.qualname = Str.ofString "FreezableDefaultDict" := by
    have : some cd = clsIn (hd.heap_1 w.params) 108 := hc.symm
    have e : (clsIn (hd.heap_1 w.params) 108).map (·.qualname) = some (Str.ofString "FreezableDefaultDict") := rfl
    rw [← this] at e
    exact Option.some.inj e
  have LC := looks_clsIn (M := model PySem.Challenge.rw_in0186_01.row.prog w) X hc
  refine wpAny_call (codeAny_of_tree ?_)
  show wpAny _ _ (callAny (.ref r) _) _ _ _
  unfold callAny
  refine wpAny_bind (wpAny_load hr ?_)
  show wpAny _ _ (checkBoundCall "collections.defaultdict.__missing__" ⟨[.ref b, .str k t], []⟩ >>= _) _ _ _
  refine wpAny_bind ?_
  delta checkBoundCall
  rw [mi_sig]
  dsimp only
  rw [mi_kind]
  dsimp only
  rw [mi_bind, mi_var]
  rw [if_neg (by decide)]
  refine wpAny_bind (LM.at ?_)
  rw [if_neg (by decide)]
  refine wpAny_bind (ks_wpAny_isType_inst hb (by intro c e; cases e) ?_)
  rw [if_neg (by decide)]
  refine wpAny_bind (T0.at ?_)
  dsimp only
  refine wpAny_bind (LC.at ?_)
  rw [hqual]
  refine wpAny_bind (TC.at ?_)
  rw [if_pos (by decide)]
  rw [show (toString (Str.ofString "FreezableDefaultDict").toString ++ toString "." ++ toString "__missing__" : String) = "FreezableDefaultDict.__missing__" by decide +kernel]
  rw [mi_args]
  refine wpAny_pure (wpAny_pure (a := Fin.again (.builtin "collections.defaultdict.__missing__" ⟨[.ref b, .str k t], []⟩)) (And.intro (Code.quiet_builtin _ (by decide +kernel)) ?_))
  refine codeAny_builtin mi_entry ?_
  rw [Around.under_plainId mi_plain]
  unfold Builtin.«collections.defaultdict.__missing__»
  show wpAny _ _ (selfAndOne _ _ >>= _) _ _ _
  unfold selfAndOne noKeywords
  dsimp only
  rw [if_pos (by decide)]
  refine wpAny_bind (wpAny_pure ?_)
  show wpAny _ _ (Builtin.Collections_defaultdict.factory? _ >>= _) _ _ _
  unfold Builtin.Collections_defaultdict.factory? slotAt
  refine wpAny_bind (wpAny_bind (wpAny_bind (wpAny_loadPart hb ?_)))
  refine wpAny_pure (wpAny_pure ?_)
  show wpAny _ _ (callOutOfASlot (.type "list") >>= _) _ _ _
  unfold callOutOfASlot borrowsExactly
  refine wpAny_bind (wpAny_bind (wpAny_pure ?_))
  rw [if_pos rfl]
  refine under0 hh ?_ ?_ (x_dlistB ⟨fun l nw h1 tk1 D => ?_⟩)
  · exact Nat.le_trans hdp (by decide)
  · rw [Around.in1_units]; omega
  refine wpAny_pure (And.intro (Code.quiet_builtin _ (by decide +kernel)) ?_)
  have hb1 := mem_keep D _ _ hb
  have X1 := X.keeps (mem_keep D)
  have hl := (D.nw _ (.head _))
  have T1 : Looks (model PySem.Challenge.rw_in0186_01.row.prog w) h1 (typeOf (.ref b)) (.ref 108) := (Looks.ld hb1).andThen .now
  have LO : Looks (model PySem.Challenge.rw_in0186_01.row.prog w) h1 (isInstance (.ref b) (.type "collections.OrderedDict")) false := T1.andThen (looks_subIn X1 (by k_is))
  have hlb : l ≠ b := by
    intro e
    have z := hl.2
    rw [show (l, ({ cls := .type "list", data := .seq #[] } : Obj)).1 = l from rfl, e, hb] at z
    cases z
  refine codeAny_builtin PySem.F.entry_dict_setdefault ?_
  unfold Builtin.«dict.setdefault»
  refine wpAny_bind (book_kad (by decide +kernel) T1 LO ?_)
  dsimp only
  rw [if_neg (by rw [hs]; decide)]
  refine (wpAny_bind (book_setDefault hb1 hz (fun l' e => by rw [ha] at e; cases e) fun _ h2 hb2 hs2 => wpAny_pure ?_))
  refine hq l h2 _ ⟨hb2, fun x o hx e => (hs2.2 x hx).trans (mem_keep D _ _ e), fun p hp => ?_⟩
  rw [List.mem_singleton.mp hp]
  exact ⟨(hs2.2 l hlb).trans hl.1, hl.2⟩
end
end
section
open PySem PySem.W PySem.Calls
open PyProof.Rows hiding wpAt wpAt_mono wpAt_bind wpAt_stack strKind
open PySem.W.X (Mem)
set_option Elab.async false
set_option maxRecDepth 100000
set_option maxHeartbeats 1000000
set_option pp.deepTerms false
set_option pp.maxSteps 3000
section
variable {α : Type} {prog : Program} {w : World} {M : Model} {A : Around} {c : Code} {E : Value → Shared → Prop} {s : Shared} {env : Env}
theorem at_spliced {x : Sem Value} {rest : List (Bool × Sem Value)} {Q : List Value → Shared → Prop}
    (h : wpAt M A c x (fun v s₁ => wpAt M A c (spliced rest) (fun vs s₂ => Q (v :: vs) s₂) E s₁) E s) : wpAt M A c (spliced ((false, x) :: rest)) Q E s := by
  rw [spliced]
  refine wpAt_bind (ks_wpAt_mono h (fun v s₁ h₁ => ?_) fun _ _ x => x)
  simp only [Bool.false_eq_true, if_false]
  exact wpAt_bind (wpAt_of_wpAny (wpAny_pure (wpAt_bind (ks_wpAt_holding (ks_wpAt_mono h₁ (fun vs s₂ h₂ => wpAt_of_wpAny (wpAny_pure h₂)) fun _ _ x => x)))))
theorem at_evalArgs {f : Value} {x : Sem Value} {rest : List (Bool × Sem Value)} {Q : Args → Shared → Prop}
    (h : wpAt M A c (spliced ((false, x) :: rest)) (fun vs s' => Q ⟨vs, []⟩ s') E s) : wpAt M A c (evalArgs f true ((false, x) :: rest) []) Q E s := by
  unfold evalArgs
  show wpAt M A c (spliced ((false, x) :: rest) >>= _) Q E s
  refine wpAt_bind (ks_wpAt_mono h (fun vs s' h' => ?_) fun _ _ x => x)
  refine wpAt_of_wpAny (wpAny_holding ?_)
  exact wpAny_bind (wpAny_pure (wpAny_bind (wpAny_pure (wpAny_pure h'))))
theorem at_callWith_builtin {pos : Pos} {id : String} {args : List (Bool × Sem Value)} {Q : Value → Shared → Prop} (hplain : args.any (·.1) = false)
    (h : wpAt M A c (evalArgs (.builtin id) true args []) (fun a s₁ => wpAny M A (call (.builtin id) a.pos a.kw) Q E s₁) E s) :
    wpAt M A c (callWith pos (.builtin id) [] args []) Q E s := by
  delta callWith
  refine wpAt_bind (ks_wpAt_holding (ks_wpAt_mono h (fun a s₁ h₁ => wpAt_of_wpAny (wpAny_bind (wpAny_standAt ?_))) fun _ _ x => x))
  rw [hplain]
  dsimp only [List.any_nil, Bool.or_false]
  refine wpAny_bind (wpAny_pure ?_)
  exact wpAny_bind (wpAny_mono h₁ (fun r s₂ hr => wpAny_bind (wpAny_holding (wpAny_point (wpAny_pure hr)))) fun _ _ x => x)
theorem callWith_bound {pos : Pos} {r : Addr} {o : Obj} {vs : Array Value} {args : List (Bool × Sem Value)} {Q : Value → Shared → Prop} (hplain : args.any (·.1) = false) (hoc : o.cls = .type "builtin_function_or_method") (hod : o.data = .fields vs)
    (h : wpAny M A (evalArgs (.ref r) true args []) (fun a s₁ => s₁.heap.get? r = some o ∧ wpAny M A (call (.ref r) a.pos a.kw) Q E s₁) E s) :
    wpAny M A (callWith pos (.ref r) [] args []) Q E s := by
  delta callWith
  refine wpAny_bind (wpAny_holding (wpAny_mono h (fun a s₁ h₁ => (wpAny_bind (wpAny_standAt ?_))) fun _ _ x => x))
  rw [hplain]
  dsimp only [List.any_nil, Bool.or_false]
  unfold keeperOf
  refine wpAny_bind (wpAny_bind (wpAny_load h₁.1 ?_))
  rw [hod, hoc]
  refine wpAny_pure ?_
  exact wpAny_bind (wpAny_mono h₁.2 (fun r s₂ hr => wpAny_bind (wpAny_holding (wpAny_point (wpAny_pure hr)))) fun _ _ x => x)
theorem at_getattrCall {g k a1 : Str} {p1 p2 p3 p4 p5 p6 p0 : Pos} {pk pa : Pos} {cn : Const} {u : Nat} {attr : Str} {Q : Value → Shared → Prop}
    (h : wpAny (model prog w) A (eval (.Name g p1) env) (fun f s₁ => f = .builtin "getattr" ∧ wpAny (model prog w) A (eval (.Name a1 pa) env) (fun v1 s₂ => wpAny (model prog w) A (eval (.Constant cn u p2) env) (fun v2 s₃ =>
      wpAt (model prog w) A c (attributeBase (.Call (.Name "super" p0) [] [] p3) attr env (eval (.Call (.Name "super" p0) [] [] p3) env)) (fun so s₄ => wpAny (model prog w) A (getAttr so attr true) (fun v3 s₅ => wpAny (model prog w) A (call (.builtin "getattr") [v1, v2, v3])
        (fun f2 s₆ => wpAny (model prog w) A (callWith p6 f2 [] [(false, eval (.Name k pk) env)] []) Q E s₆) E s₅) E s₄) E s₃) E s₂) E s₁) E s) :
    wpAt (model prog w) A c (eval (.Call (.Call (.Name g p1) [.Name a1 pa, .Constant cn u p2, .Attribute (.Call (.Name "super" p0) [] [] p3) attr p4] [] p5) [.Name k pk] [] p6) env) Q E s := by
  show wpAt _ _ _ ((eval (.Call (.Name g p1) [.Name a1 pa, .Constant cn u p2, .Attribute (.Call (.Name "super" p0) [] [] p3) attr p4] [] p5) env) >>= fun f => callWith p6 f [] [(false, eval (.Name k pk) env)] []) _ _ _
  refine wpAt_bind ?_
  show wpAt _ _ _ (eval (.Name g p1) env >>= fun f => callWith p5 f [] [(false, eval (.Name a1 pa) env), (false, eval (.Constant cn u p2) env), (false, eval (.Attribute (.Call (.Name "super" p0) [] [] p3) attr p4) env)] []) _ _ _
  refine wpAt_bind (wpAt_of_wpAny (wpAny_mono h (fun f s₁ h₁ => ?_) fun _ _ z => z))
  obtain ⟨rfl, h₁⟩ := h₁
  refine at_callWith_builtin rfl (at_evalArgs (at_spliced (wpAt_of_wpAny (wpAny_mono h₁ (fun v1 s₂ h₂ => ?_) fun _ _ z => z))))
  refine at_spliced (wpAt_of_wpAny (wpAny_mono h₂ (fun v2 s₃ h₃ => ?_) fun _ _ z => z))
  refine at_spliced ?_
  show wpAt _ _ _ (attributeBase (.Call (.Name "super" p0) [] [] p3) attr env (eval (.Call (.Name "super" p0) [] [] p3) env) >>= _) _ _ _
  refine wpAt_bind (ks_wpAt_mono h₃ (fun so s₄ h₄ => ?_) fun _ _ z => z)
  refine wpAt_of_wpAny (wpAny_bind (wpAny_standAt (wpAny_bind (wpAny_holding (wpAny_mono h₄ (fun v3 s₅ h₅ => ?_) fun _ _ z => z)))))
  refine wpAny_bind (wpAny_letTemporaryGo (wpAny_pure (wpAt_of_wpAny (wpAny_pure ?_))))
  exact wpAny_mono h₅ (fun f2 s₆ h₆ => wpAt_of_wpAny h₆) fun _ _ z => z
end
section
variable {w : World} {A : Around} {h : Heap} {gs : Array GenState} {dr : Drawn} {tk : Nat} {os : OsState} {E : Value → Shared → Prop}
theorem super_attr {so b d : Addr} {es : Array DictEntry} {ep : Nat} {Q : Value → Shared → Prop} (hh : A.handled = none) (hdp : A.depth ≤ 700) (hun : A.units ≤ 7000) (X : (hd.heap_1 w.params).In h)
    (hb : h.get? b = some { cls := .ref 108, dict := some d, data := .dict es ep, slots := #[some (.type "list")] }) 
    (hso : h.get? so = some (ks_superObj 108 b 108)) (hbC : b ≠ 108)
    (hq : ∀ r nw h' tk', Mem h h' [] ((r, boundMiss b) :: nw) → Q (.ref r) ⟨h', gs, dr, tk', os⟩) :
    wpAny (model PySem.Challenge.rw_in0186_01.row.prog w) A (getAttr (.ref so) (Str.ofString "__missing__") true) Q E ⟨h, gs, dr, tk, os⟩ := by
  have hlk := F.ks_slot_super_ga.lookup
  have hcan := F.ks_canon_super_ga
  have hT : ∀ t', (⟨h, gs, dr, t', os⟩ : Shared).TypeIs (.ref so) "super" := fun _ => ⟨_, hso, rfl⟩
  unfold getAttr getAttrBy
  refine wpAny_bind (wpAny_mkText (wpAny_holding (wpAny_bind (wpAny_typeOf (hT _) (wpAny_bind (wpAny_of_eq hlk ?_))))))
  show wpAny _ _ (getAttrByItsOwn (.ref so) (.str (Str.ofString "__missing__") tk) (.type "super") (.builtin "super.__getattribute__") true _) _ _ _
  unfold getAttrByItsOwn hookBefore callGetattribute boundAndCalled
  refine wpAny_bind (wpAny_of_eq (show (if onTheHeap (.type "super") then typeLookup (.type "super") "__getattr__" else pure none) = pure none from rfl) ?_)
  refine wpAny_bind (wpAny_attempt (wpAny_holding ?_))
  show wpAny _ _ (bindSpecial (.builtin "super.__getattribute__") (.ref so) >>= _) _ _ _
  refine wpAny_bind (wpAny_of_eq (F.ks_slot_super_ga.bind _) ?_)
  refine wpAny_mono (Q := fun v s' => ∃ r nw h' tk', Mem h h' [] ((r, boundMiss b) :: nw) ∧ v = .ref r ∧ s' = ⟨h', gs, dr, tk', os⟩) (E := fun _ _ => False)
    (wpAny_call_entry F.ks_slot_super_ga (hT _) F.ks_entry_super_ga (super_ga (A := A.in1) hh (Nat.le_trans hdp (by decide)) (by rw [Around.in1_units]; omega) X hb hso hbC (fun r nw h' tk' D => ⟨_, rfl, r, nw, h', tk', D, rfl, rfl⟩)) (F.ks_gaArgs_super _ _)) (fun v s' hv => ?_) fun _ _ z => z.elim
  obtain ⟨r, nw, h', tk', D, rfl, rfl⟩ := hv
  exact wpAny_pure (hq _ _ _ _ D)
end
end
local macro_rules | `(tactic| k_room) => `(tactic| ktr_room)
local macro_rules | `(tactic| k_units) => `(tactic| ktr_units)
local macro_rules | `(tactic| ktr_units) => `(tactic| ((have hcL9 := PyProof.Rows.cLine_is); (try simp only [PyProof.Rows.units_in1, PyProof.Rows.units_deeper, PyProof.Rows.units_under_make, PySem.Around.mark_units, PyProof.Rows.units_caller, PySem.Around.deeper_units, PySem.Around.in1_units]); (try dsimp only [PySem.W.ktrTop]); omega))
section
open PySem PySem.W PySem.Calls
open PyProof.Rows hiding wpAt wpAt_mono wpAt_bind wpAt_stack strKind
open PySem.W.X (Mem)
set_option Elab.async false
set_option maxRecDepth 100000
set_option maxHeartbeats 1000000
set_option pp.deepTerms false
set_option pp.maxSteps 3000
def upd (news : List (Addr × Obj)) (b : Addr) (o : Obj) : List (Addr × Obj) := news.map fun p => if p.1 = b then (b, o) else p
theorem upd_mem {news : List (Addr × Obj)} {b : Addr} {o o' : Obj} (h : (b, o') ∈ news) : (b, o) ∈ upd news b o := List.mem_map.mpr ⟨_, h, by simp⟩
theorem upd_off {news : List (Addr × Obj)} {b : Addr} {o : Obj} {p : Addr × Obj} (h : p ∈ news) (hn : p.1 ≠ b) : p ∈ upd news b o := List.mem_map.mpr ⟨_, h, by simp [hn]⟩
section
variable {h h' h₀ : Heap} {L b : Addr} {m : Str → Option Value} {ob : Obj} {nw news : List (Addr × Obj)}
theorem grew_fr (G : Grew h h' b ob nw) (F : Fr h₀ L h m) (hL : b ≠ L) (h0 : h₀.get? b = none) : Fr h₀ L h' m := by
  obtain ⟨oL, es, ep, hL', r⟩ := F.ns
  exact ⟨⟨oL, es, ep, G.keep _ _ (Ne.symm hL) hL', r⟩, fun c o e => G.keep c o (by rintro rfl; rw [h0] at e; cases e) (F.keep c o e), F.above⟩
theorem grew_news (G : Grew h h' b ob nw) (F : Fr h₀ L h m) (N : News h₀ L h news) : News h₀ L h' (nw ++ upd news b ob) := fun p hp => by
  rcases List.mem_append.mp hp with hp | hp
  · refine ⟨(G.nw p hp).1, fun e => ?_, ?_⟩
    · obtain ⟨oL, es, ep, hL, r⟩ := F.ns
      have z := (G.nw p hp).2
      rw [e, hL] at z; cases z
    · cases q : h₀.get? p.1 with
      | none => rfl
      | some o => have z := (G.nw p hp).2; rw [F.keep _ _ q] at z; cases z
  · obtain ⟨q, hq, e⟩ := List.mem_map.mp hp
    by_cases hb : q.1 = b
    · rw [if_pos hb] at e
      rw [← e]
      exact ⟨G.at_, hb ▸ (N q hq).2.1, hb ▸ (N q hq).2.2⟩
    · rw [if_neg hb] at e
      rw [← e]
      exact ⟨G.keep _ _ hb (N q hq).1, (N q hq).2⟩
theorem grew_off (G : Grew h h' b ob nw) (N : News h₀ L h news) : ∀ p ∈ nw, ∀ q ∈ news, q.1 ≠ p.1 := fun p hp q hq e => by
  have z := (G.nw p hp).2
  rw [← e, (N q hq).1] at z; cases z
end
abbrev emptyL : Obj := { cls := .type "list", data := .seq #[] }
theorem missing_open (w : World) {mean : ExcName → Option Value} {mg mb : Str → Option Value} {dp un : Nat} {gd : Option (List Code)} {cn : Str} {cs : Scope} {a : Addr} {ccd : Value} {cl : List (Str × Addr)} {outer : List Env} {A₀ : Around} {base h₀ : Heap} {L : Addr} {m : Str → Option Value} {s : Shared} {news : List (Addr × Obj)}
    {Q E : Value → Shared → Prop} {b d : Addr} {es : List Ent} {ep : Nat} {k : Str} {t : Tok} (B : Below A₀ base outer h₀) (F : Fr h₀ L s.heap m) (X : (hd.heap_1 w.params).In h₀) (N : News h₀ L s.heap news) (T : Top topProg lo mean mg mb h₀) (hk : cs.kind = .function) (hdp : dp ≤ 690) (hun : un ≤ 6900)
    (hs : (b == sysModules) = false) (hb : (b, bookO w es ep d) ∈ news) (hd' : (d, emptyDict) ∈ news) (hz : es.length ≤ sizeLine) (ha : atE es k = none)
    (hq : ∀ l h' tk', Fr h₀ L h' m → News h₀ L h' ((l, emptyL) :: upd news b (bookO w (es ++ [(k, t, l)]) (ep + 1) d)) → (∀ q ∈ news, q.1 ≠ l) → Q (.ref l) { s with heap := h', toks := tk' }) :
    codeAny (model PySem.Challenge.rw_in0186_01.row.prog w) (ktrTop dp un gd cn cs L a ccd cl outer).in1 (.call (.ref 98) ⟨[.ref b, .str k t], []⟩) (wants Q E) s := by
  revert X
  k_fill
  intro X
  refine' ks_code_super (binds := [(Str.ofString "self", .ref b), (Str.ofString "key", .str k t)]) ?k1 ?k2 ?k3 ?k4 ?k5 ?kA ?kF ?kK ?k6 ?k7 ?k8 ?k9 ?kB ?_ ?c1 ?c2 ?c3 ?c4
  case kA => exact rfl
  case kF => exact rfl
  case kK => first | assumption | exact rfl
  case k1 => k_asm
  case k2 => k_asm
  case k3 => k_asm
  case k4 => k_asm
  case k5 => k_asm
  case k6 => k_is
  case k7 => k_is
  case k8 => ktr_room
  case k9 => exact BindsTo.of_eq rfl
  case kB => exact locs rfl
  case c1 => decide
  case c2 => exact rfl
  case c3 => exact rfl
  case c4 => exact rfl
  intro g' L' h' FG' F' N' B' X' T' l1
  refine ks_wpAt_execs_cons (ks_wpAt_Return_some ?_)
  refine at_getattrCall ?_
  dsimp only
  walk1
  refine ⟨rfl, ?_⟩
  walk1
  walk1
  have hbg := (N' _ hb).1
  have I' : InstAt h' b (bookO w es ep d) 108 (some emptyDict) := ⟨hbg, rfl, rfl, (N' _ hd').1⟩
  refine ks_node (x := b) (ox := bookO w es ep d) (odx := some emptyDict) (C := 108) (D := 108) (f := 98) (cc := 86) (cda := 97) (by k_asm) (by k_asm) (by k_asm) (by k_asm) (by k_is) (by rfl) (by rfl) I' (by k_is) (by rfl) (by first | rfl | decide +kernel) (by k_is) (by k_is) (by k_is) (by k_is) (by decide) (by rfl) (by rfl) (by rfl) (by rfl) (by decide +kernel) (by first | boot_by_name | rfl | kernel_rfl) ?_
  intro so h2 F2 N2 l2
  have hbC : b ≠ 108 := by
    rintro rfl
    have z := (N _ hb).2.2
    rw [X _ _ (show (hd.heap_1 w.params).lookup 108 = some _ by k_is)] at z
    cases z
  have X2 := X'.keeps F2.keep
  have e1 : ∀ {z}, z ∈ news → z ∈ (so, ks_superObj 108 b 108) :: news := fun hz => .tail _ hz
  refine super_attr (by rfl) (by ktr_room) (by ktr_units) X2 (N2 _ (e1 hb)).1 (N2 _ (.head _)).1 hbC ?_
  intro r nw h3 tk3 D3
  have F3 := keep_fr (mem_keep D3) F2
  have N3 := mem_news D3 F2 N2
  refine under0 (by rfl) (by ktr_room) (by ktr_units) (x_getattr0 (X'.keeps F3.keep) (N3 _ (List.mem_append.mpr (.inr (e1 hb)))).1 (N3 _ (List.mem_append.mpr (.inr (e1 hd')))).1 ⟨?_⟩)
  intro nw4 h4 tk4 D4
  have F4 := keep_fr (mem_keep D4) F3
  have N4 := keep_news (mem_keep D4) N3
  refine callWith_bound (o := boundMiss b) rfl rfl rfl (evalArgs_plain (spliced_cons ?_))
  dsimp only
  walk1
  refine spliced_nil ⟨(N4 _ (.head _)).1, ?_⟩
  have hb4 := (N4 _ (List.mem_append.mpr (.inr (e1 hb)))).1
  refine miss_call (by rfl) (by ktr_room) (by ktr_units) (X'.keeps F4.keep) hs hb4 hz (N4 _ (.head _)).1 ha ?_
  intro l h5 tk5 G5
  have nb := N' _ hb
  have F5 := grew_fr G5 F4 nb.2.1 nb.2.2
  have N5 := grew_news G5 F4 N4
  refine leaveK_ F5 N5 fun kF kN => ?_
  have N0 : News h₀ L h5 ((l, emptyL) :: upd news b (bookO w (es ++ [(k, t, l)]) (ep + 1) d)) := fun p hp => by
    rcases List.mem_cons.mp hp with rfl | hp
    · exact kN _ (.head _)
    · refine kN _ (List.mem_append.mpr (.inr ?_))
      unfold upd at hp ⊢
      obtain ⟨q, hq', e⟩ := List.mem_map.mp hp
      exact List.mem_map.mpr ⟨q, List.mem_append.mpr (.inr (e1 hq')), e⟩
  exact hq l h5 _ kF N0 fun q hq' => grew_off G5 N4 _ (.head _) _ (List.mem_append.mpr (.inr (e1 hq')))
end
section
open PySem PySem.W PySem.Calls
open PyProof.Rows hiding wpAt wpAt_mono wpAt_bind wpAt_stack strKind
open Builtin Builtin.ObjectAttr
set_option Elab.async false
set_option maxRecDepth 100000
set_option maxHeartbeats 2000000
set_option pp.deepTerms false
set_option pp.maxSteps 3000
section
variable {prog : Program} {w : World} {A : Around} {K : Frag} {C x : Addr} {s : Shared} {h₀ : Heap} {L : Addr} {m : Str → Option Value} {news : List (Addr × Obj)} {R : Result → Shared → Prop}
theorem refuse_dd (self : Value) : refuseLoop self "__setattr__" [.ref 108, .type "collections.defaultdict", .type "dict", .type "object"] = pure () := by
  rw [refuseLoop_ref]
  kernel_rfl
end
section
variable {w : World} {A : Around} {E : Value → Shared → Prop} {h : Heap} {gs : Array GenState} {dr : Drawn} {tk : Nat} {os : OsState} {es : List Ent} {ep : Nat} {b d fn : Addr}
theorem book_freezeSet {Q : Unit → Shared → Prop} (X : (hd.heap_1 w.params).In h) (hb : h.get? b = some (bookO w es ep d)) (hd' : h.get? d = some emptyDict)
    (hq : ∀ h' t tk', Grew h h' d (frozenDict t fn w 1) [] → Q () ⟨h', gs, dr, tk', os⟩) :
    wpAny (model PySem.Challenge.rw_in0186_01.row.prog w) A (setAttr (.ref b) (Str.ofString "_frozen") (.ref fn)) Q E ⟨h, gs, dr, tk, os⟩ := by
  revert X; k_fill; intro X
  have I : InstAt h b (bookO w es ep d) 108 (some emptyDict) := ⟨hb, rfl, rfl, hd'⟩
  refine set_plain (K := hd.heap_1 w.params) (C := 108) X I (by k_is) ?_
  have SF := PySem.F.store_object
  obtain ⟨cd, hc⟩ : ∃ cd, clsIn (hd.heap_1 w.params) 108 = some cd := ⟨_, rfl⟩
  have hmro : cd.mro = [.ref 108, .type "collections.defaultdict", .type "dict", .type "object"] := by
    have : some cd = clsIn (hd.heap_1 w.params) 108 := hc.symm
    have e : (clsIn (hd.heap_1 w.params) 108).map (·.mro) = some [.ref 108, .type "collections.defaultdict", .type "dict", .type "object"] := rfl
    rw [← this] at e
    exact Option.some.inj e
  have hhas : cd.hasDict = true := by
    have : some cd = clsIn (hd.heap_1 w.params) 108 := hc.symm
    have e : (clsIn (hd.heap_1 w.params) 108).map (·.hasDict) = some true := rfl
    rw [← this] at e
    exact Option.some.inj e
  have sub : Looks (model PySem.Challenge.rw_in0186_01.row.prog w) h (isInstance (.ref b) (.type "object")) true := I.type.andThen (looks_subIn X (by k_is))
  refine codeAny_call_builtin SF.slot.plain SF.entry (@check_slot (model PySem.Challenge.rw_in0186_01.row.prog w) _ _ _ "object.__setattr__" "object" "__setattr__" (.ref b) [.str (Str.ofString "_frozen") tk, .ref fn] [] _ SF.kind SF.split sub (SF.args (.ref b) (.str (Str.ofString "_frozen") tk) (.ref fn)) ?_)
  have hm : Looks (model PySem.Challenge.rw_in0186_01.row.prog w) h (mroOf (.ref 108)) cd.mro := (looks_clsIn X hc).andThen .now
  rw [osa_eq, refuse_eq]
  refine wpAny_bind (wpAny_bind (I.type.at (wpAny_bind (hm.at ?_))))
  rw [hmro, refuse_dd]
  refine wpAny_pure (wpAny_bind (I.type.at (wpAny_bind ((looks_findIn (r := none) X (by k_is)).at (wpAny_bind (wpAny_pure ?_))))))
  dsimp only
  show wpAny _ _ (storeInOwnDict (.ref b) (.ref 108) (.str (Str.ofString "_frozen") tk) (Str.ofString "_frozen") (.ref fn) false) _ _ _
  refine wpAny_bind (wpAny_pure (wpAny_bind (wpAny_bind (wpAny_loadPart hb (wpAny_bind ((looks_clsIn X hc).at ?_))))))
  rw [hhas]
  refine wpAny_pure (a := some d) (wpAny_bind (wpAny_pure (wpAny_bind ?_)))
  unfold nsSet
  refine wpAny_bind (wpAny_bind (wpAny_askSetting (wpAny_pure (wpAny_bind (wpAny_mkText (wpAny_bind (wpAny_loadPart hd' ?_)))))))
  dsimp only
  rw [show aRefKeyMayBeTheName (Str.ofString "_frozen") #[] = false by rw [aRefKeyMayBeTheName_at]; simp]
  rw [if_neg (by decide)]
  have hp : (Obj.putName (Str.ofString "_frozen") (hashStr w (Str.ofString "_frozen")) (.str (Str.ofString "_frozen") (tk + 1)) (.ref fn)) emptyDict = frozenDict (tk + 1) fn w 1 := by rfl
  have hg : (h.update d (Obj.putName (Str.ofString "_frozen") (hashStr w (Str.ofString "_frozen")) (.str (Str.ofString "_frozen") (tk + 1)) (.ref fn))).get? d = some (frozenDict (tk + 1) fn w 1) := by
    rw [Heap.get?_update_self _ hd' (by rw [hp]; rfl), hp]
  refine wpAny_updatePart hd' ?_
  refine wpAny_bind (wpAny_lookBehind hg (pastItsLine_dict (by rw [sizeLine_eq]; exact Nat.le_of_ble_eq_true rfl)) ?_)
  exact wpAny_pure (hq _ _ _ ⟨hg, fun x o hx e => (Heap.get?_update_other h _ (Ne.symm hx)).trans e, fun p hp => (nomatch hp)⟩)
end
end
section
open PySem PySem.W PySem.Calls
open PyProof.Rows hiding wpAt wpAt_mono wpAt_bind wpAt_stack strKind
open PySem.W.X (Mem)
set_option Elab.async false
set_option maxRecDepth 100000
set_option maxHeartbeats 2000000
set_option pp.deepTerms false
set_option pp.maxSteps 3000
def lamP (K : Frag) : Option (Arguments × Expr × Scope) := match K.lookup 105 with
  | some ⟨_, _, .func fd, _⟩ => match fd.body with
    | .stmts [.Assign _ (.Lambda ps b sc _) _] => some (ps, b, sc)
    | _ => none
  | _ => none
def lamQ : Str := Str.ofString "FreezableDefaultDict.freeze" ++ Str.ofString ".<locals>." ++ Str.ofString "<lambda>"
def Frozen (w : World) (news : List (Addr × Obj)) (b d : Addr) : Prop :=
  ∃ fn sc c' oc so vs t t2 ctv pm ps bd scp, lamP (hd.heap_1 w.params) = some (ps, bd, scp) ∧ (d, frozenDict t2 fn w 1) ∈ news ∧ (fn, kla_obj (Str.ofString "<lambda>") lamQ ps bd scp [(Str.ofString "self", sc)] pm c' ctv) ∈ news ∧
    (sc, so) ∈ news ∧ so.data = .cell (some (.ref b)) ∧ (c', oc) ∈ news ∧ oc.data = .fields vs ∧ vs[1]? = some (.str lamQ t) ∧ ∃ tp, (100, tabObj tp) ∈ news
theorem freeze_spec (w : World) {mean : ExcName → Option Value} {mg mb : Str → Option Value} {dp un : Nat} {gd : Option (List Code)} {cn : Str} {cs : Scope} {a : Addr} {ccd : Value} {cl : List (Str × Addr)} {outer : List Env} {A₀ : Around} {base h₀ : Heap} {L : Addr} {m : Str → Option Value} {s : Shared} {news : List (Addr × Obj)} {Q E : Value → Shared → Prop} {b d : Addr} {es : List Ent} {ep : Nat} {rest : List (Addr × Obj)} (B : Below A₀ base outer h₀) (F : Fr h₀ L s.heap m) (X : (hd.heap_1 w.params).In h₀) (N : News h₀ L s.heap news) (T : Top topProg lo mean mg mb h₀) (hk : cs.kind = .function) (hdp : dp ≤ 690) (hun : un ≤ 6900)
    (hn : news = (b, bookO w es ep d) :: (d, emptyDict) :: (100, tabObj #[]) :: rest) (hbd : b ≠ d) (hb1 : b ≠ 100) (hd1 : d ≠ 100) (ob : ∀ p ∈ rest, p.1 ≠ b) (od : ∀ p ∈ rest, p.1 ≠ d) (oc : ∀ p ∈ rest, p.1 ≠ 100)
    (hq : ∀ h' tk' own, Fr h₀ L h' m → News h₀ L h' ((b, bookO w es ep d) :: (own ++ rest)) → Frozen w own b d → (∀ p ∈ own, p.1 ≠ b) → (∀ p ∈ own, ∀ q ∈ rest, q.1 ≠ p.1) → Q .none { s with heap := h', toks := tk' }) :
    wpAny (model PySem.Challenge.rw_in0186_01.row.prog w) (ktrTop dp un gd cn cs L a ccd cl outer) (call (.ref 105) [.ref b]) Q E s := by
  revert X
  k_fill
  intro X
  subst hn
  refine wpAny_call ?_
  k_dflt (refine' code_defC (binds := [(Str.ofString "self", .ref b)]) ?k1 ?k2 ?k3 ?k4 ?k5 ?kA ?kF ?kK ?k6 ?k7 ?k8 ?k9 ?kB ?kD ?_ ?c2 ?c3 ?c4; (case kA => exact rfl); (case kF => exact rfl); (case kK => first | assumption | exact rfl); (case k1 => k_asm); (case k2 => k_asm); (case k3 => k_asm); (case k4 => k_asm); (case k5 => k_asm); (case k6 => k_is); (case k7 => k_is); (case k8 => ktr_room); (case k9 => first | exact BindsTo.of_eq rfl | exact binds_K (by k_in) rfl (by k_is) rfl rfl rfl); (case kB => exact rfl); (case kD => decide +kernel); (case c2 => exact rfl); (case c3 => exact rfl); (case c4 => exact rfl); k_whole; intro g' L' h' tk' cells' FG' F' N' Y' B' X' T' l1; k_cells Y'; (try simp only [List.cons_append, List.nil_append] at N'); (try dsimp only); (try k_fold))
  rename Obj => o1
  rename Obj.data o1 = _ => d1
  have lne : L' + 1 ≠ 100 ∧ L' + 1 ≠ b ∧ L' + 1 ≠ d := by
    have z1 := l1 _ (.head _)
    have z2 := l1 _ (.tail _ (.head _))
    have z3 := l1 _ (.tail _ (.tail _ (.head _)))
    dsimp only at z1 z2 z3
    exact ⟨(Nat.ne_of_lt (Nat.lt_succ_of_lt z3)).symm, (Nat.ne_of_lt (Nat.lt_succ_of_lt z1)).symm, (Nat.ne_of_lt (Nat.lt_succ_of_lt z2)).symm⟩
  walk1
  walk1
  refine kla_eval rfl ?_
  refine' kla_nest F' N' T' (codeHd_of_K X' (by first | rfl | kernel_rfl | decide +kernel)) rfl (UpdF.tail lne.1 (UpdF.tail hb1 (UpdF.tail hd1 (UpdF.head oc)))) True.intro rfl rfl ?_
  intro f' c' oc' vs' t' ct' h2 tk2 F2 N2 d1' d2' l2 l3
  dsimp only at N2
  generalize (#[] ++ #[rawInt _, rawInt _, Value.ref c'] : Array Value) = tb at N2
  generalize (Option.getD _ Value.none) = pm0 at N2
  walk1
  refine book_freezeSet (X'.keeps F2.keep) (N2 _ (.tail _ (.tail _ (.tail _ (.head _))))).1 (N2 _ (.tail _ (.tail _ (.tail _ (.tail _ (.head _)))))).1 ?_
  intro h3 t3 tk3 G3
  have nd := N2 _ (.tail _ (.tail _ (.tail _ (.tail _ (.head _)))))
  have F3 := grew_fr G3 F2 nd.2.1 nd.2.2
  have N3 := grew_news G3 F2 N2
  have hfd : f' ≠ d := (Nat.ne_of_lt (Nat.lt_trans (l2 _ (.tail _ (.tail _ (.head _)))) l3)).symm
  have hcd : c' ≠ d := (Nat.ne_of_lt (l2 _ (.tail _ (.tail _ (.head _))))).symm
  refine wpAny_pure ?_
  refine leaveK_ F3 N3 fun kF kN => ?_
  rw [List.nil_append] at kN
  have z1 := l1 _ (.head _)
  have z2 := l1 _ (.tail _ (.head _))
  have z3 := l1 _ (.tail _ (.tail _ (.head _)))
  have y0 := l2 _ (.head _)
  have y1 := l2 _ (.tail _ (.head _))
  have y3 := l2 _ (.tail _ (.tail _ (.tail _ (.head _))))
  refine hq h3 _ [(d, frozenDict t3 f' w 1), (f', _), (c', oc'), (L' + 1, o1), (100, tabObj tb)] kF (fun p hp => kN p ?_) ⟨f', L' + 1, c', oc', o1, vs', t', t3, ct', pm0, _, _, _, rfl, .head _, .tail _ (.head _), .tail _ (.tail _ (.tail _ (.head _))), d1, .tail _ (.tail _ (.head _)), d1', d2', tb, .tail _ (.tail _ (.tail _ (.tail _ (.head _))))⟩ ?_ ?_
  · simp only [List.mem_cons, List.mem_append, List.cons_append, List.nil_append, List.not_mem_nil, or_false] at hp
    rcases hp with rfl | rfl | rfl | rfl | rfl | rfl | hp
    · exact upd_off (.tail _ (.tail _ (.tail _ (.head _)))) hbd
    · exact upd_mem (.tail _ (.tail _ (.tail _ (.tail _ (.head _)))))
    · exact upd_off (.head _) hfd
    · exact upd_off (.tail _ (.head _)) hcd
    · exact upd_off (.tail _ (.tail _ (.head _))) lne.2.2
    · exact upd_off (.tail _ (.tail _ (.tail _ (.tail _ (.tail _ (.head _)))))) (Ne.symm hd1)
    · exact upd_off (.tail _ (.tail _ (.tail _ (.tail _ (.tail _ (.tail _ hp)))))) (od p hp)
  · exact List.forall_mem_cons.mpr ⟨Ne.symm hbd, List.forall_mem_cons.mpr ⟨(Nat.ne_of_lt (Nat.lt_trans y1 l3)).symm, List.forall_mem_cons.mpr ⟨(Nat.ne_of_lt y1).symm, List.forall_mem_cons.mpr ⟨lne.2.1, List.forall_mem_cons.mpr ⟨Ne.symm hb1, fun p hp => nomatch hp⟩⟩⟩⟩⟩
  · have yr : ∀ q ∈ rest, q.1 < c' := fun q hq => l2 _ (.tail _ (.tail _ (.tail _ (.tail _ hq))))
    have zr : ∀ q ∈ rest, q.1 < L' := fun q hq => l1 _ (.tail _ (.tail _ (.tail _ hq)))
    exact List.forall_mem_cons.mpr ⟨od, List.forall_mem_cons.mpr ⟨fun q hq => Nat.ne_of_lt (Nat.lt_trans (yr q hq) l3), List.forall_mem_cons.mpr ⟨fun q hq => Nat.ne_of_lt (yr q hq), List.forall_mem_cons.mpr ⟨fun q hq => Nat.ne_of_lt (Nat.lt_succ_of_lt (zr q hq)), List.forall_mem_cons.mpr ⟨oc, fun p hp => nomatch hp⟩⟩⟩⟩⟩
end
section
open PySem PySem.W PySem.Calls
open PyProof.Rows hiding wpAt wpAt_mono wpAt_bind wpAt_stack strKind
open Builtin Builtin.ObjectAttr
set_option Elab.async false
set_option maxRecDepth 100000
set_option maxHeartbeats 2000000
set_option pp.deepTerms false
set_option pp.maxSteps 3000
theorem ga_dd : GaFacts "collections.defaultdict.__getattribute__" "collections.defaultdict" where
  kind := by decide +kernel
  split := by decide +kernel
  plain := by decide +kernel
  entry := entryFor_alias (id' := "object.__getattribute__") (by kernel_rfl) (by first | rfl | decide +kernel | (unfold String.splitOn; simp +decide [String.splitOnAux])) (by decide +kernel) (by kernel_rfl)
  bind := fun self => (Slot.of (T := "collections.defaultdict") (name := "__getattribute__") (owner := "collections.defaultdict") (n := "__getattribute__") (by rw [typeLookup_type, builtinLookup_eq_fast]; kernel_rfl) (by decide +kernel) (by decide +kernel) (by decide +kernel)
    (.inl (by decide +kernel)) (by rw [isSubtype_type]; kernel_rfl)).bind self
  args := fun a b => by unfold argsOk; kernel_rfl
  ne := by decide +kernel
section
open PySem.W.X
variable {w : World} {hp : Heap} {gs : Array GenState} {dr : Drawn} {tk : Nat} {os : OsState} {Q E : Value → Shared → Prop}
local macro_rules | `(tactic| x_close) => `(tactic| ((with_reducible rename Ret _ => hr9); (have hz9 := Ret.out hr9); first | exact hz9 _ _ _ (Mem.start _) | exact hz9 _ _ _ (by assumption)))
theorem x_facget (X : (hd.heap_1 w.params).In hp) {b d : Addr} {es : Array DictEntry} {ep : Nat} (hb : hp.get? b = some { cls := .ref 108, dict := some d, data := .dict es ep, slots := #[some (.type "list")] })
   (hret : Ret <| ∀ nw h' tk', Mem hp h' [] nw → Q (.type "list") ⟨h', gs, dr, tk', os⟩) :
    wpAny (model PySem.Challenge.rw_in0186_01.row.prog w) A0 (call (.builtin "member_descriptor.__get__") [.builtin "collections.defaultdict.default_factory", .ref b, .ref 108]) Q E ⟨hp, gs, dr, tk, os⟩ := by
  k_fill
  x_run
end
open PySem.W.X (Mem)
section
variable {w : World} {A : Around} {E : Value → Shared → Prop} {h : Heap} {gs : Array GenState} {dr : Drawn} {tk : Nat} {os : OsState} {es : List Ent} {ep : Nat} {b d fn : Addr} {od : Obj}
theorem book_factoryAttr {ex : Bool} {Q : Value → Shared → Prop} (hh : A.handled = none) (hdp : A.depth ≤ 700) (hun : A.units ≤ 7000) (X : (hd.heap_1 w.params).In h) (hb : h.get? b = some (bookO w es ep d)) (hd' : h.get? d = some od)
    (hq : ∀ nw h' tk', Mem h h' [] nw → Q (.type "list") ⟨h', gs, dr, tk', os⟩) :
    wpAny (model PySem.Challenge.rw_in0186_01.row.prog w) A (getAttr (.ref b) (Str.ofString "default_factory") ex) Q E ⟨h, gs, dr, tk, os⟩ := by
  revert X; k_fill; intro X
  refine getattr_own (K := hd.heap_1 w.params) (C := 108) (od := some od) ga_dd X ⟨hb, rfl, rfl, hd'⟩ (by k_is) (by k_is) (by k_is) (r := .bind (.builtin "member_descriptor.__get__") (.builtin "collections.defaultdict.default_factory")) (by simp) (findObj_data rfl (by k_is) (by k_is) (by k_is)) ?_
  show wpAny _ _ (holding [_] (call _ [_, .ref b, .ref 108]) >>= ret) _ _ _
  refine wpAny_bind (wpAny_holding (under0 (by exact hh) (Nat.le_trans hdp (by decide)) (by rw [Around.in1_units]; omega) (x_facget X hb ⟨fun nw h' tk' D => ?_⟩)))
  refine wpAny_pure ?_
  dsimp only
  exact handed_on rfl (hq _ _ _ D)
end
end
section
open PySem PySem.W PySem.Calls
open PyProof.Rows hiding wpAt wpAt_mono wpAt_bind wpAt_stack strKind
open Builtin Builtin.ObjectAttr
open PySem.W.X (Mem)
set_option Elab.async false
set_option maxRecDepth 100000
set_option maxHeartbeats 2000000
set_option pp.deepTerms false
set_option pp.maxSteps 3000
theorem dd_canon : (Manifest.canonical "collections.defaultdict.__getattribute__" != "object.__getattribute__") = false := by decide +kernel
section
variable {w : World} {A : Around} {E : Value → Shared → Prop} {h : Heap} {gs : Array GenState} {dr : Drawn} {tk : Nat} {os : OsState} {es : List Ent} {ep : Nat} {b d fn : Addr} {od : Obj}
theorem book_gm {md : Str → Option Value} {name : Str} {pl : Sem Bool} {f : Value} {T : String} {Q : Value × List Value → Shared → Prop} (X : (hd.heap_1 w.params).In h) (hb : h.get? b = some (bookO w es ep d)) (hns : h.Ns d md) (hno : md name = none)
    (hf : findIn (hd.heap_1 w.params) (.ref 108) name = some (some f)) (ht : typeIn (hd.heap_1 w.params) f = some (.type T)) (hT : T = "function" ∨ T = "method_descriptor")
    (hg : findIn (hd.heap_1 w.params) (.ref 108) "__getattribute__" = some (some (.builtin "collections.defaultdict.__getattribute__"))) (hg2 : findIn (hd.heap_1 w.params) (.ref 108) "__getattr__" = some none)
    (hq : Q (f, [.ref b]) ⟨h, gs, dr, tk, os⟩) :
    wpAny (model PySem.Challenge.rw_in0186_01.row.prog w) A (getMethod (.ref b) name pl) Q E ⟨h, gs, dr, tk, os⟩ := by
  have T0 : Looks (model PySem.Challenge.rw_in0186_01.row.prog w) h (typeOf (.ref b)) (.ref 108) := (Looks.ld hb).andThen .now
  have L1 : Looks (model PySem.Challenge.rw_in0186_01.row.prog w) h (specialOf (.ref b) "__getattribute__") (some (.builtin "collections.defaultdict.__getattribute__")) := T0.andThen (looks_findIn X hg)
  have L2 : Looks (model PySem.Challenge.rw_in0186_01.row.prog w) h (specialOf (.ref b) "__getattr__") none := T0.andThen (looks_findIn X hg2)
  have L3 : Looks (model PySem.Challenge.rw_in0186_01.row.prog w) h (specialOf (.ref b) name) (some f) := T0.andThen (looks_findIn X hf)
  have L4 := looks_typeIn (M := model PySem.Challenge.rw_in0186_01.row.prog w) X ht
  unfold getMethod
  refine wpAny_bind (L1.at ?_)
  dsimp only
  rw [dd_canon, if_neg (by decide)]
  refine wpAny_bind (L2.at ?_)
  rw [if_neg (by decide)]
  refine wpAny_bind (L3.at ?_)
  dsimp only
  refine wpAny_bind (L4.at ?_)
  rw [if_neg (by rcases hT with rfl | rfl <;> decide)]
  refine wpAny_bind (wpAny_loadPart hb ?_)
  dsimp only [bookO]
  refine wpAny_bind (wpAny_nsGet hns ?_)
  rw [hno, if_neg (by decide)]
  exact wpAny_bind (wpAny_rule (wpAny_pure hq))
theorem book_gmFactory {pl : Sem Bool} {Q : Value × List Value → Shared → Prop} (hh : A.handled = none) (hdp : A.depth ≤ 700) (hun : A.units ≤ 7000) (X : (hd.heap_1 w.params).In h) (hb : h.get? b = some (bookO w es ep d)) (hd' : h.get? d = some od)
    (hq : ∀ nw h' tk', Mem h h' [] nw → Q (.type "list", []) ⟨h', gs, dr, tk', os⟩) :
    wpAny (model PySem.Challenge.rw_in0186_01.row.prog w) A (getMethod (.ref b) (Str.ofString "default_factory") pl) Q E ⟨h, gs, dr, tk, os⟩ := by
  revert X; k_fill; intro X
  have T0 : Looks (model PySem.Challenge.rw_in0186_01.row.prog w) h (typeOf (.ref b)) (.ref 108) := (Looks.ld hb).andThen .now
  have L1 : Looks (model PySem.Challenge.rw_in0186_01.row.prog w) h (specialOf (.ref b) "__getattribute__") (some (.builtin "collections.defaultdict.__getattribute__")) := T0.andThen (looks_findIn X (by k_is))
  have L2 : Looks (model PySem.Challenge.rw_in0186_01.row.prog w) h (specialOf (.ref b) "__getattr__") none := T0.andThen (looks_findIn X (by k_is))
  have L3 : Looks (model PySem.Challenge.rw_in0186_01.row.prog w) h (specialOf (.ref b) (Str.ofString "default_factory")) (some (.builtin "collections.defaultdict.default_factory")) := T0.andThen (looks_findIn X (by k_is))
  have L4 : Looks (model PySem.Challenge.rw_in0186_01.row.prog w) h (typeOf (.builtin "collections.defaultdict.default_factory")) (.type "member_descriptor") := looks_typeIn X (by k_is)
  unfold getMethod
  refine wpAny_bind (L1.at ?_)
  dsimp only
  rw [dd_canon, if_neg (by decide)]
  refine wpAny_bind (L2.at ?_)
  rw [if_neg (by decide)]
  refine wpAny_bind (L3.at ?_)
  dsimp only
  refine wpAny_bind (L4.at ?_)
  rw [if_pos (by decide)]
  refine wpAny_bind ?_
  exact book_factoryAttr hh hdp hun X hb hd' fun nw h' tk' D => wpAny_pure (hq _ _ _ D)
theorem ns_empty (hd' : h.get? d = some emptyDict) : h.Ns d (fun _ => none) := ⟨_, _, _, hd', rfl, fun e he => (by simp at he), fun name => (by simp [nsFind, findBy])⟩
theorem ns_frozen {t : Tok} (hd' : h.get? d = some (frozenDict t fn w ep)) : h.Ns d (fun n => if n = Str.ofString "_frozen" then some (.ref fn) else none) :=
  ⟨_, _, _, hd', rfl, fun e he => (by simp only [List.mem_toArray, List.mem_singleton] at he; exact ⟨_, _, (by rw [show e = _ from by simpa using he])⟩), fun name => (by
    simp only [nsFind, findBy]
    by_cases e : name = Str.ofString "_frozen"
    · subst e; simp [Value.isStr]
    · simp [Value.isStr, e, Ne.symm e])⟩
end
end
section
open PySem PySem.W PySem.Calls
open PyProof.Rows hiding wpAt wpAt_mono wpAt_bind wpAt_stack strKind
open PySem.W.X (Mem)
set_option Elab.async false
set_option maxRecDepth 100000
set_option maxHeartbeats 2000000
set_option pp.deepTerms false
set_option pp.maxSteps 3000
local macro_rules | `(tactic| walk_at "eval Name") => `(tactic| (k_here; (refine' nameX_F ?N ?c ?m ?d ?_ ?a ?b; (case a => rfl); (case b => rfl); (case N => k_asm); (case c => rfl); (case m => exact .tail _ (by assumption)); (case d => assumption); k_whole)))
theorem missing_frozen (w : World) {mean : ExcName → Option Value} {mg mb : Str → Option Value} {dp un : Nat} {gd : Option (List Code)} {cn : Str} {cs : Scope} {a : Addr} {ccd : Value} {cl : List (Str × Addr)} {outer : List Env} {A₀ : Around} {base h₀ : Heap} {L : Addr} {m : Str → Option Value} {s : Shared} {news : List (Addr × Obj)} {Q E : Value → Shared → Prop} {b d : Addr} {es : List Ent} {ep : Nat} {k : Str} {t : Tok} (B : Below A₀ base outer h₀) (F : Fr h₀ L s.heap m) (X : (hd.heap_1 w.params).In h₀) (N : News h₀ L s.heap news) (T : Top topProg lo mean mg mb h₀) (hk : cs.kind = .function) (hdp : dp ≤ 690) (hun : un ≤ 6900)
    (hb : (b, bookO w es ep d) ∈ news) (hf : Frozen w news b d)
    (hq : ∀ l h' tk', Fr h₀ L h' m → News h₀ L h' ((l, emptyL) :: news) → (∀ q ∈ news, q.1 ≠ l) → Q (.ref l) { s with heap := h', toks := tk' }) :
    codeAny (model PySem.Challenge.rw_in0186_01.row.prog w) (ktrTop dp un gd cn cs L a ccd cl outer).in1 (.call (.ref 98) ⟨[.ref b, .str k t], []⟩) (wants Q E) s := by
  obtain ⟨fn, sc, c', oc, so0, vs, tq, t2, ctv, pm, ps, bdy, scp, hlam, hdd, hfn, hsc, hsd, hc', hocd, hvs, _⟩ := hf
  revert hlam X
  k_fill
  intro X hlam
  have hlam' : ∃ x, lamP (hd.heap_1 w.params) = some x ∧ x = (ps, bdy, scp) := ⟨_, hlam, rfl⟩
  clear hlam
  obtain ⟨x, hx, hxe⟩ := hlam'
  have hx2 := hx
  rw [show lamP (hd.heap_1 w.params) = some _ from rfl] at hx2
  have hx3 := Option.some.inj hx2
  rw [← hx3] at hxe
  obtain ⟨hxa, hxf⟩ := Prod.mk.inj hxe
  obtain ⟨hxb, hxc⟩ := Prod.mk.inj hxf
  clear hx hx2 hx3 hxe hxf
  subst hxa hxb hxc
  refine' ks_code_super (binds := [(Str.ofString "self", .ref b), (Str.ofString "key", .str k t)]) ?k1 ?k2 ?k3 ?k4 ?k5 ?kA ?kF ?kK ?k6 ?k7 ?k8 ?k9 ?kB ?_ ?c1 ?c2 ?c3 ?c4
  case kA => exact rfl
  case kF => exact rfl
  case kK => first | assumption | exact rfl
  case k1 => k_asm
  case k2 => k_asm
  case k3 => k_asm
  case k4 => k_asm
  case k5 => k_asm
  case k6 => k_is
  case k7 => k_is
  case k8 => ktr_room
  case k9 => exact BindsTo.of_eq rfl
  case kB => exact locs rfl
  case c1 => decide
  case c2 => exact rfl
  case c3 => exact rfl
  case c4 => exact rfl
  intro g' L' h' FG' F' N' B' X' T' l1
  refine ks_wpAt_execs_cons (ks_wpAt_Return_some ?_)
  refine at_getattrCall ?_
  dsimp only
  walk1
  refine ⟨rfl, ?_⟩
  walk1
  walk1
  have hbg := (N' _ hb).1
  have I' : InstAt h' b (bookO w es ep d) 108 (some (frozenDict t2 fn w 1)) := ⟨hbg, rfl, rfl, (N' _ hdd).1⟩
  refine ks_node (x := b) (ox := bookO w es ep d) (odx := some (frozenDict t2 fn w 1)) (C := 108) (D := 108) (f := 98) (cc := 86) (cda := 97) (by k_asm) (by k_asm) (by k_asm) (by k_asm) (by k_is) (by rfl) (by rfl) I' (by k_is) (by rfl) (by first | rfl | decide +kernel) (by k_is) (by k_is) (by k_is) (by k_is) (by decide) (by rfl) (by rfl) (by rfl) (by rfl) (by decide +kernel) (by first | boot_by_name | rfl | kernel_rfl) ?_
  intro so h2 F2 N2 l2
  have hbC : b ≠ 108 := by
    rintro rfl
    have z := (N _ hb).2.2
    rw [X _ _ (show (hd.heap_1 w.params).lookup 108 = some _ by k_is)] at z
    cases z
  have X2 := X'.keeps F2.keep
  have e1 : ∀ {z}, z ∈ news → z ∈ (so, ks_superObj 108 b 108) :: news := fun hz => .tail _ hz
  refine super_attr (by rfl) (by ktr_room) (by ktr_units) X2 (N2 _ (e1 hb)).1 (N2 _ (.head _)).1 hbC ?_
  intro r nw h3 tk3 D3
  have F3 := keep_fr (mem_keep D3) F2
  have N3 := keep_news (mem_keep D3) N2
  refine under0 (by rfl) (by ktr_room) (by ktr_units) (x_getattr1 (X'.keeps F3.keep) (N3 _ (e1 hb)).1 (N3 _ (e1 hdd)).1 (N3 _ (e1 hfn)).1 rfl ⟨?_⟩)
  intro nw4 h4 tk4 D4
  have F4 := keep_fr (mem_keep D4) F3
  have N4 := keep_news (mem_keep D4) N3
  have fnAt : ∀ {hh LL} (Nx : News g' LL hh ((so, ks_superObj 108 b 108) :: news)), FnAt fn hh := fun Nx => FnAt.of Nx (e1 hfn)
  refine' callWith_of (P := FnAt fn) ?hpl keeps_F (evalArgs_plain (spliced_cons ?_))
  case hpl => rfl
  dsimp only
  walk1
  refine spliced_nil ⟨fnAt N4, ?_⟩
  refine wpAny_call ?_
  refine kla_code (binds := [(Str.ofString "key", .str k t)]) B' F4 X' N4 T' rfl rfl rfl (e1 hfn) (codeRec_news N4 (e1 hc') hocd hvs) (by ktr_room) rfl (locs rfl) ?_ rfl rfl rfl (by decide)
  intro g5 L5 h5 Fg5 F5 N5 B5 X5 T5
  dsimp only
  walk1
  refine nameX_F N5 rfl (.tail _ hsc) hsd ?_ rfl rfl
  refine book_gmFactory (by rfl) (by ktr_room) (by ktr_units) (X5.keeps F5.keep) (N5 _ (e1 hb)).1 (N5 _ (e1 hdd)).1 ?_
  intro nw6 h6 tk6 D6
  have F6 := keep_fr (mem_keep D6) F5
  have N6 := keep_news (mem_keep D6) N5
  refine callWith_type0 ?_
  refine under0 (by rfl) (by ktr_room) (by ktr_units) (x_dlist ⟨?_⟩)
  intro l nw7 h7 tk7 D7
  have F7 := keep_fr (mem_keep D7) F6
  have N7 := mem_news D7 F6 N6
  refine leaveK_ F7 N7 fun kF kN => ?_
  refine leaveK_ kF kN fun kF kN => ?_
  exact hq l h7 _ kF (fun p hp => kN p (by
    rcases List.mem_cons.mp hp with rfl | hp
    · exact .head _
    · exact List.mem_append.mpr (.inr (e1 hp)))) fun q hq' => mem_off D7 N6 _ (.head _) _ (e1 hq')
end
section
open PySem PySem.W PySem.Calls
open PyProof.Rows hiding wpAt wpAt_mono wpAt_bind wpAt_stack strKind
open PySem.W.X (Mem)
set_option Elab.async false
set_option maxRecDepth 100000
set_option maxHeartbeats 2000000
set_option pp.deepTerms false
set_option pp.maxSteps 3000
structure EntC where
  n : Str
  t : Tok
  l : Addr
  vs : List Value
  cap : Nat
  ws : List Str
def EntC.e (x : EntC) : Ent := (x.n, x.t, x.l)
def EntC.o (x : EntC) : Addr × Obj := (x.l, listOf x.vs.toArray x.cap)
structure BookSt (w : World) (b d : Addr) (ep : Nat) (es : List EntC) (other nx : List (Addr × Obj)) : Prop where
  led : nx = (b, bookO w (es.map EntC.e) ep d) :: (es.map EntC.o ++ other)
  ndl : (es.map EntC.l).Nodup
  nb : ∀ x ∈ es, x.l ≠ b
  ob : ∀ p ∈ other, p.1 ≠ b
  oe : ∀ p ∈ other, ∀ x ∈ es, p.1 ≠ x.l
  ndn : (es.map EntC.n).Nodup
  txt : ∀ x ∈ es, StrsAre x.vs x.ws
  sys : (b == sysModules) = false
section
variable {w : World} {b d : Addr} {ep : Nat} {es : List EntC} {other nx : List (Addr × Obj)} {k : Str} {t : Tok}
theorem BookSt.book (S : BookSt w b d ep es other nx) : (b, bookO w (es.map EntC.e) ep d) ∈ nx := S.led ▸ .head _
theorem BookSt.list (S : BookSt w b d ep es other nx) {x : EntC} (hx : x ∈ es) : (x.l, listOf x.vs.toArray x.cap) ∈ nx := S.led ▸ .tail _ (List.mem_append.mpr (.inl (List.mem_map.mpr ⟨x, hx, rfl⟩)))
theorem BookSt.oth (S : BookSt w b d ep es other nx) {p : Addr × Obj} (hp : p ∈ other) : p ∈ nx := S.led ▸ .tail _ (List.mem_append.mpr (.inr hp))
theorem atE_some {l : Addr} (h : atE (es.map EntC.e) k = some l) : ∃ x ∈ es, x.n = k ∧ x.l = l := by
  obtain ⟨i, e, _, h2, h3, h4⟩ := idx_some h
  obtain ⟨x, hx, rfl⟩ := List.mem_map.mp (List.mem_of_getElem? h2)
  exact ⟨x, hx, h3, h4⟩
theorem atE_none (h : atE (es.map EntC.e) k = none) : ∀ x ∈ es, x.n ≠ k := by
  intro x hx e
  have := idx_none h
  rw [List.findIdx?_eq_none_iff] at this
  simpa [EntC.e, e] using this _ (List.mem_map.mpr ⟨x, hx, rfl⟩)
def newE (k : Str) (t : Tok) (l : Addr) : EntC := ⟨k, t, l, [], 0, []⟩
theorem BookSt.add (S : BookSt w b d ep es other nx) {l : Addr} (hn : ∀ x ∈ es, x.n ≠ k) (hl : ∀ q ∈ nx, q.1 ≠ l) :
    ∃ nx', BookSt w b d (ep + 1) (es ++ [newE k t l]) other nx' ∧ ∀ p ∈ nx', p ∈ (l, emptyL) :: upd nx b (bookO w ((es ++ [newE k t l]).map EntC.e) (ep + 1) d) := by
  have lb : l ≠ b := Ne.symm (hl _ S.book)
  refine ⟨_, ⟨rfl, ?_, ?_, S.ob, ?_, ?_, ?_, S.sys⟩, ?_⟩
  · rw [List.map_append, List.nodup_append]
    refine ⟨S.ndl, by simp, fun a ha c hc => ?_⟩
    obtain ⟨x, hx, rfl⟩ := List.mem_map.mp ha
    simp only [List.map_cons, List.map_nil, List.mem_singleton] at hc
    rw [hc]
    exact hl _ (S.list hx)
  · intro x hx
    rcases List.mem_append.mp hx with hx | hx
    · exact S.nb x hx
    · rw [List.mem_singleton.mp hx]; exact lb
  · intro p hp x hx
    rcases List.mem_append.mp hx with hx | hx
    · exact S.oe p hp x hx
    · rw [List.mem_singleton.mp hx]; exact hl _ (S.oth hp)
  · rw [List.map_append, List.nodup_append]
    refine ⟨S.ndn, by simp, fun a ha c hc => ?_⟩
    obtain ⟨x, hx, rfl⟩ := List.mem_map.mp ha
    simp only [List.map_cons, List.map_nil, List.mem_singleton] at hc
    rw [hc]
    exact hn x hx
  · intro x hx
    rcases List.mem_append.mp hx with hx | hx
    · exact S.txt x hx
    · rw [List.mem_singleton.mp hx]; exact .nil
  · intro p hp
    rcases List.mem_cons.mp hp with rfl | hp
    · exact .tail _ (upd_mem S.book)
    · rcases List.mem_append.mp hp with hp | hp
      · rw [List.map_append] at hp
        rcases List.mem_append.mp hp with hp | hp
        · obtain ⟨x, hx, rfl⟩ := List.mem_map.mp hp
          exact .tail _ (upd_off (S.list hx) (S.nb x hx))
        · rw [List.map_cons, List.map_nil, List.mem_singleton] at hp
          rw [hp]; exact .head _
      · exact .tail _ (upd_off (S.oth hp) (S.ob p hp))
end
theorem op_getItem (w : World) {mean : ExcName → Option Value} {mg mb : Str → Option Value} {dp un : Nat} {gd : Option (List Code)} {cn : Str} {cs : Scope} {a : Addr} {ccd : Value} {cl : List (Str × Addr)} {outer : List Env} {A₀ : Around} {base h₀ : Heap} {L : Addr} {m : Str → Option Value} {s : Shared} {news : List (Addr × Obj)} {Q E : Value → Shared → Prop} {b d : Addr} {ep : Nat} {es : List EntC} {other : List (Addr × Obj)} {k : Str} {t : Tok} (B : Below A₀ base outer h₀) (F : Fr h₀ L s.heap m) (X : (hd.heap_1 w.params).In h₀) (N : News h₀ L s.heap news) (T : Top topProg lo mean mg mb h₀) (hk : cs.kind = .function) (hdp : dp ≤ 690) (hun : un ≤ 6900)
    (S : BookSt w b d ep es other news) (hz : es.length ≤ sizeLine) (hf : (d, emptyDict) ∈ other ∨ Frozen w other b d)
    (hit : ∀ x ∈ es, x.n = k → ∀ tk', Q (.ref x.l) { s with toks := tk' })
    (hopen : (d, emptyDict) ∈ other → (∀ x ∈ es, x.n ≠ k) → ∀ l h' tk' nx', Fr h₀ L h' m → News h₀ L h' nx' → BookSt w b d (ep + 1) (es ++ [newE k t l]) other nx' → Q (.ref l) { s with heap := h', toks := tk' })
    (hfroz : Frozen w other b d → (∀ x ∈ es, x.n ≠ k) → ∀ l h' tk', Fr h₀ L h' m → News h₀ L h' ((l, emptyL) :: news) → (∀ q ∈ news, q.1 ≠ l) → Q (.ref l) { s with heap := h', toks := tk' }) :
    wpAny (model PySem.Challenge.rw_in0186_01.row.prog w) (ktrTop dp un gd cn cs L a ccd cl outer) (getItem (.ref b) (.str k t)) Q E s := by
  obtain ⟨hp, gs, dr, tk, os⟩ := s
  refine book_item (X.keeps F.keep) S.sys (N _ S.book).1 (fun l hl => ?_) (fun ha => ?_)
  · obtain ⟨x, hx, e1, rfl⟩ := atE_some hl
    exact hit x hx e1 _
  · have hno := atE_none ha
    rcases hf with hf | hf
    · refine missing_open w (s := ⟨hp, gs, dr, tk + 1, os⟩) B F X N T hk hdp hun S.sys S.book (S.oth hf) (by simpa using hz) ha ?_
      intro l h' tk' F' N' hl
      obtain ⟨nx', S', hsub⟩ := S.add (t := t) hno hl
      refine hopen hf hno l h' tk' nx' F' (fun p hp => ?_) S'
      have := hsub p hp
      rw [List.map_append] at this
      exact N' p this
    · have hf' : Frozen w news b d := by
        obtain ⟨fn, sc, c', oc, so0, vs, tq, t2, ctv, pm, ps, bdy, scp, h1, h2, h3, h4, h5, h6, h7, h8, tp, h9⟩ := hf
        exact ⟨fn, sc, c', oc, so0, vs, tq, t2, ctv, pm, ps, bdy, scp, h1, S.oth h2, S.oth h3, S.oth h4, h5, S.oth h6, h7, h8, tp, S.oth h9⟩
      refine missing_frozen w (s := ⟨hp, gs, dr, tk + 1, os⟩) B F X N T hk hdp hun S.book hf' ?_
      intro l h' tk' F' N' hl
      exact hfroz hf hno l h' tk' F' N' hl
end
section
open PySem PySem.W PySem.Calls
open PyProof.Rows hiding wpAt wpAt_mono wpAt_bind wpAt_stack strKind
open PySem.W.X (Mem)
set_option Elab.async false
set_option maxRecDepth 100000
set_option maxHeartbeats 2000000
set_option pp.deepTerms false
set_option pp.maxSteps 3000
def app (es : List EntC) (l : Addr) (v : Value) (y : Str) : List EntC := es.map fun x => if x.l = l then { x with vs := x.vs ++ [v], ws := x.ws ++ [y], cap := x.cap + 1 } else x
theorem strs_snoc {vs : List Value} {ws : List Str} (h : StrsAre vs ws) (y : Str) (t : Tok) : StrsAre (vs ++ [.str y t]) (ws ++ [y]) := by
  induction h with
  | nil => exact .cons y t .nil
  | cons z u _ ih => exact .cons z u ih
section
variable {w : World} {b d : Addr} {ep : Nat} {es : List EntC} {other nx : List (Addr × Obj)} {k : Str} {t : Tok}
theorem app_e (es : List EntC) (l : Addr) (v : Value) (y : Str) : (app es l v y).map EntC.e = es.map EntC.e := by
  unfold app; rw [List.map_map]; refine List.map_congr_left fun x _ => ?_
  show EntC.e (if x.l = l then _ else x) = _
  split <;> rfl
theorem app_l (es : List EntC) (l : Addr) (v : Value) (y : Str) : (app es l v y).map EntC.l = es.map EntC.l := by
  unfold app; rw [List.map_map]; refine List.map_congr_left fun x _ => ?_
  show EntC.l (if x.l = l then _ else x) = _
  split <;> rfl
theorem app_n (es : List EntC) (l : Addr) (v : Value) (y : Str) : (app es l v y).map EntC.n = es.map EntC.n := by
  unfold app; rw [List.map_map]; refine List.map_congr_left fun x _ => ?_
  show EntC.n (if x.l = l then _ else x) = _
  split <;> rfl
theorem mem_app {es : List EntC} {l : Addr} {v : Value} {y : Str} {z : EntC} (h : z ∈ app es l v y) : ∃ x ∈ es, z.l = x.l ∧ z = if x.l = l then { x with vs := x.vs ++ [v], ws := x.ws ++ [y], cap := x.cap + 1 } else x := by
  obtain ⟨x, hx, rfl⟩ := List.mem_map.mp h
  refine ⟨x, hx, ?_, rfl⟩
  split <;> rfl
theorem inj_l (h : (es.map EntC.l).Nodup) {x y : EntC} (hx : x ∈ es) (hy : y ∈ es) (e : x.l = y.l) : x = y := by
  induction es with
  | nil => cases hx
  | cons a r ih =>
    rw [List.map_cons, List.nodup_cons] at h
    rcases List.mem_cons.mp hx with hx1 | hx1 <;> rcases List.mem_cons.mp hy with hy1 | hy1
    · rw [hx1, hy1]
    · exact absurd (List.mem_map.mpr ⟨y, hy1, by rw [← e, hx1]⟩) h.1
    · exact absurd (List.mem_map.mpr ⟨x, hx1, by rw [e, hy1]⟩) h.1
    · exact ih h.2 hx1 hy1
theorem BookSt.app (S : BookSt w b d ep es other nx) {x : EntC} (hx : x ∈ es) {y : Str} {u : Tok} :
    ∃ nx', BookSt w b d ep (Mine.app es x.l (Value.str y u) y) other nx' ∧ ∀ p ∈ nx', p ∈ upd nx x.l (W.listOf (x.vs ++ [Value.str y u]).toArray (x.cap + 1)) := by
  refine ⟨_, ⟨rfl, by rw [app_l]; exact S.ndl, ?_, S.ob, ?_, by rw [app_n]; exact S.ndn, ?_, S.sys⟩, ?_⟩
  · intro z hz
    obtain ⟨a, ha, e, _⟩ := mem_app hz
    rw [e]; exact S.nb a ha
  · intro p hp z hz
    obtain ⟨a, ha, e, _⟩ := mem_app hz
    rw [e]; exact S.oe p hp a ha
  · intro z hz
    obtain ⟨a, ha, _, e⟩ := mem_app hz
    rw [e]
    split
    · exact strs_snoc (S.txt a ha) y u
    · exact S.txt a ha
  · intro p hp
    rw [app_e] at hp
    rcases List.mem_cons.mp hp with rfl | hp
    · exact upd_off S.book (Ne.symm (S.nb x hx))
    · rcases List.mem_append.mp hp with hp | hp
      · obtain ⟨z, hz, rfl⟩ := List.mem_map.mp hp
        obtain ⟨a, ha, _, e⟩ := mem_app hz
        by_cases c : a.l = x.l
        · rw [if_pos c] at e
          rw [e, inj_l S.ndl ha hx c]
          exact upd_mem (S.list hx)
        · rw [if_neg c] at e
          rw [e]
          exact upd_off (S.list ha) c
      · exact upd_off (S.oth hp) (S.oe p hp x hx)
theorem BookSt.drop (S : BookSt w b d ep es other nx) (k : Str) (ep' : Nat) :
    ∃ nx', BookSt w b d ep' (es.filter fun x => decide (x.n ≠ k)) other nx' ∧ ∀ p ∈ nx', p ∈ upd nx b (bookO w ((es.filter fun x => decide (x.n ≠ k)).map EntC.e) ep' d) := by
  have sub : ∀ x ∈ es.filter (fun x => decide (x.n ≠ k)), x ∈ es := fun x hx => (List.mem_filter.mp hx).1
  refine ⟨_, ⟨rfl, (List.filter_sublist.map _).nodup S.ndl, fun x hx => S.nb x (sub x hx), S.ob, fun p hp x hx => S.oe p hp x (sub x hx), (List.filter_sublist.map _).nodup S.ndn, fun x hx => S.txt x (sub x hx), S.sys⟩, ?_⟩
  intro p hp
  rcases List.mem_cons.mp hp with rfl | hp
  · exact upd_mem S.book
  · rcases List.mem_append.mp hp with hp | hp
    · obtain ⟨x, hx, rfl⟩ := List.mem_map.mp hp
      exact upd_off (S.list (sub x hx)) (S.nb x (sub x hx))
    · exact upd_off (S.oth hp) (S.ob p hp)
end
section
variable {w : World} {A : Around} {Q E : Value → Shared → Prop} {s : Shared} {h₀ : Heap} {L : Addr} {m : Str → Option Value} {news : List (Addr × Obj)} {b d : Addr} {ep : Nat} {es : List EntC} {other : List (Addr × Obj)} {k : Str} {t : Tok}
theorem same_grew {h h' : Heap} {a : Addr} {o : Obj} (hs : Heap.SameBut a h h') (ho : h'.get? a = some o) : Grew h h' a o [] := ⟨ho, fun x o hx e => (hs.2 x hx).trans e, fun p hp => nomatch hp⟩
theorem op_append {x : EntC} {y : Str} {u : Tok} (F : Fr h₀ L s.heap m) (N : News h₀ L s.heap news) (S : BookSt w b d ep es other news) (hx : x ∈ es) (hz : x.vs.length ≤ sizeLine)
    (hq : ∀ h' nx', Fr h₀ L h' m → News h₀ L h' nx' → BookSt w b d ep (Mine.app es x.l (.str y u) y) other nx' → Q .none { s with heap := h' }) :
    wpAny (model PySem.Challenge.rw_in0186_01.row.prog w) A (call (.builtin "list.append") [.ref x.l, .str y u]) Q E s := by
  have nl := N _ (S.list hx)
  refine append_at (hsz := by simpa using hz) nl.1 fun h' hs ho => ?_
  have G := same_grew hs ho
  obtain ⟨nx', S', hsub⟩ := S.app hx (y := y) (u := u)
  refine hq h' nx' (grew_fr G F nl.2.1 nl.2.2) (fun p hp => grew_news G F N p (List.mem_append.mpr (.inr ?_))) S'
  have := hsub p hp
  rwa [← List.push_toArray] at this
theorem op_appendFree {l : Addr} {v : Value} (F : Fr h₀ L s.heap m) (N : News h₀ L s.heap ((l, emptyL) :: news)) (hl : ∀ q ∈ news, q.1 ≠ l)
    (hq : ∀ h', Fr h₀ L h' m → News h₀ L h' news → Q .none { s with heap := h' }) :
    wpAny (model PySem.Challenge.rw_in0186_01.row.prog w) A (call (.builtin "list.append") [.ref l, v]) Q E s := by
  have nl := N _ (.head _)
  refine append_at (hsz := by rw [sizeLine_eq]; exact Nat.zero_le _) nl.1 fun h' hs ho => ?_
  have G := same_grew hs ho
  exact hq h' (grew_fr G F nl.2.1 nl.2.2) (fun p hp => grew_news G F N p (List.mem_append.mpr (.inr (upd_off (.tail _ hp) (hl p hp)))))
end
theorem sdf_plain : plainId "dict.setdefault" = true := by decide +kernel
theorem sdf_split : splitId "dict.setdefault" = some ("dict", "setdefault") := by decide +kernel
theorem sdf_args (a b c : Value) : argsOk "dict.setdefault" ⟨[a, b, c], []⟩ := by unfold argsOk; kernel_rfl
theorem pop_plain : plainId "dict.pop" = true := by decide +kernel
theorem pop_split : splitId "dict.pop" = some ("dict", "pop") := by decide +kernel
theorem pop_kind : builtinKind "dict.pop" = some .slot ∨ builtinKind "dict.pop" = some .method := .inr (by decide +kernel)
theorem pop_args (a b c : Value) : argsOk "dict.pop" ⟨[a, b, c], []⟩ := by unfold argsOk; kernel_rfl
section
variable {w : World} {A : Around} {Q E : Value → Shared → Prop} {s : Shared} {h₀ : Heap} {L : Addr} {m : Str → Option Value} {news : List (Addr × Obj)} {b d : Addr} {ep : Nat} {es : List EntC} {other : List (Addr × Obj)} {k : Str} {t : Tok}
theorem op_setdefault {l : Addr} (F : Fr h₀ L s.heap m) (X : (hd.heap_1 w.params).In h₀) (N : News h₀ L s.heap ((l, emptyL) :: news)) (S : BookSt w b d ep es other news) (hz : es.length ≤ sizeLine) (hl : ∀ q ∈ news, q.1 ≠ l)
    (hit : ∀ x ∈ es, x.n = k → ∀ tk', News h₀ L s.heap news → Q (.ref x.l) { s with toks := tk' })
    (miss : (∀ x ∈ es, x.n ≠ k) → ∀ h' tk' nx', Fr h₀ L h' m → News h₀ L h' nx' → BookSt w b d (ep + 1) (es ++ [newE k t l]) other nx' → Q (.ref l) { s with heap := h', toks := tk' }) :
    wpAny (model PySem.Challenge.rw_in0186_01.row.prog w) A (call (.builtin "dict.setdefault") [.ref b, .str k t, .ref l]) Q E s := by
  revert X; k_fill; intro X0
  have X := X0.keeps F.keep
  have N0 : News h₀ L s.heap news := fun p hp => N p (.tail _ hp)
  have hb := (N0 _ S.book).1
  obtain ⟨hp, gs, dr, tk, os⟩ := s
  have T1 : Looks (model PySem.Challenge.rw_in0186_01.row.prog w) hp (typeOf (.ref b)) (.ref 108) := (Looks.ld hb).andThen .now
  have LS : Looks (model PySem.Challenge.rw_in0186_01.row.prog w) hp (isInstance (.ref b) (.type "dict")) true := T1.andThen (looks_subIn X (by k_is))
  have LO : Looks (model PySem.Challenge.rw_in0186_01.row.prog w) hp (isInstance (.ref b) (.type "collections.OrderedDict")) false := T1.andThen (looks_subIn X (by k_is))
  refine wpAny_call (codeAny_call_builtin sdf_plain PySem.F.entry_dict_setdefault ?_)
  refine @check_meth (model PySem.Challenge.rw_in0186_01.row.prog w) _ _ ⟨hp, gs, dr, tk, os⟩ "dict.setdefault" "dict" "setdefault" (.ref b) [.str k t, .ref l] _ sd_kind sdf_split LS (sdf_args _ _ _) ?_
  unfold Builtin.«dict.setdefault»
  refine wpAny_bind (book_kad (by decide +kernel) T1 LO ?_)
  dsimp only
  rw [if_neg (by rw [S.sys]; decide)]
  refine wpAny_bind (book_setDefault hb (by simpa using hz) (fun l' hl' => ?_) fun ha h2 hb2 hs2 => ?_)
  · obtain ⟨x, hx, e1, rfl⟩ := atE_some hl'
    exact wpAny_pure (hit x hx e1 _ N0)
  · have hno := atE_none ha
    have nb := N0 _ S.book
    have G := same_grew hs2 hb2
    obtain ⟨nx', S', hsub⟩ := S.add (t := t) hno hl
    refine wpAny_pure (miss hno h2 _ nx' (grew_fr G F nb.2.1 nb.2.2) (fun p hp => grew_news G F N p (List.mem_append.mpr (.inr ?_))) S')
    rcases List.mem_cons.mp (hsub p hp) with rfl | hp'
    · exact upd_off (.head _) (Ne.symm (hl _ S.book))
    · rw [List.map_append] at hp'
      unfold upd at hp' ⊢
      obtain ⟨q, hq', e⟩ := List.mem_map.mp hp'
      exact List.mem_map.mpr ⟨q, .tail _ hq', e⟩
end
end
section
open PySem PySem.W PySem.Calls
open PyProof.Rows hiding wpAt wpAt_mono wpAt_bind wpAt_stack strKind
open PySem.W.X (Mem)
set_option Elab.async false
set_option maxRecDepth 100000
set_option maxHeartbeats 2000000
set_option pp.deepTerms false
set_option pp.maxSteps 3000
theorem erase_filter {es : List EntC} {k : Str} (hn : (es.map EntC.n).Nodup) {i : Nat} (hi : ((es.map EntC.e).findIdx? fun e => decide (e.1 = k)) = some i) : es.eraseIdx i = es.filter fun x => decide (x.n ≠ k) := by
  induction es generalizing i with
  | nil => simp at hi
  | cons a r ih =>
    rw [List.map_cons, List.nodup_cons] at hn
    rw [List.map_cons, List.findIdx?_cons] at hi
    by_cases c : a.n = k
    · rw [if_pos (show decide ((EntC.e a).1 = k) = true from decide_eq_true c)] at hi
      have hi' : 0 = i := Option.some.inj hi
      subst hi'
      have hr : r.filter (fun x => decide (x.n ≠ k)) = r := List.filter_eq_self.mpr fun x hx => by
        have : x.n ≠ k := fun e => hn.1 (List.mem_map.mpr ⟨x, hx, by rw [e, c]⟩)
        simpa using this
      rw [List.eraseIdx_cons_zero, List.filter_cons, if_neg (by simp [c]), hr]
    · rw [if_neg (show ¬ decide ((EntC.e a).1 = k) = true from fun z => c (of_decide_eq_true z))] at hi
      obtain ⟨j, hj, rfl⟩ := Option.map_eq_some_iff.mp hi
      rw [List.eraseIdx_cons_succ, List.filter_cons, if_pos (by simp [c]), ih hn.2 hj]
theorem erase_map {α β : Type} (f : α → β) : ∀ (l : List α) (i : Nat), (l.map f).eraseIdx i = (l.eraseIdx i).map f
  | [], _ => by simp
  | _ :: _, 0 => by simp
  | a :: l, i + 1 => by rw [List.map_cons, List.eraseIdx_cons_succ, List.eraseIdx_cons_succ, List.map_cons, erase_map f l i]
theorem erase_size (es : Array DictEntry) (i : Nat) : (es.eraseIdxIfInBounds i).size ≤ es.size + 1 := by
  unfold Array.eraseIdxIfInBounds
  split
  · rw [Array.size_eraseIdx]; omega
  · omega
theorem filter_all {es : List EntC} {k : Str} (h : ∀ x ∈ es, x.n ≠ k) : (es.filter fun x => decide (x.n ≠ k)) = es := List.filter_eq_self.mpr fun x hx => by simpa using h x hx
section
variable {w : World} {A : Around} {Q E : Value → Shared → Prop} {s : Shared} {h₀ : Heap} {L : Addr} {m : Str → Option Value} {news : List (Addr × Obj)} {b d : Addr} {ep : Nat} {es : List EntC} {other : List (Addr × Obj)} {k : Str} {t : Tok}
theorem op_pop (F : Fr h₀ L s.heap m) (X : (hd.heap_1 w.params).In h₀) (N : News h₀ L s.heap news) (S : BookSt w b d ep es other news) (hz : es.length ≤ sizeLine)
    (hq : ∀ v h' tk' nx' ep', Fr h₀ L h' m → News h₀ L h' nx' → BookSt w b d ep' (es.filter fun x => decide (x.n ≠ k)) other nx' → Q v { s with heap := h', toks := tk' }) :
    wpAny (model PySem.Challenge.rw_in0186_01.row.prog w) A (call (.builtin "dict.pop") [.ref b, .str k t, .none]) Q E s := by
  revert X; k_fill; intro X0
  have X := X0.keeps F.keep
  have hb := (N _ S.book).1
  obtain ⟨hp, gs, dr, tk, os⟩ := s
  have T1 : Looks (model PySem.Challenge.rw_in0186_01.row.prog w) hp (typeOf (.ref b)) (.ref 108) := (Looks.ld hb).andThen .now
  have LS : Looks (model PySem.Challenge.rw_in0186_01.row.prog w) hp (isInstance (.ref b) (.type "dict")) true := T1.andThen (looks_subIn X (by k_is))
  have LO : Looks (model PySem.Challenge.rw_in0186_01.row.prog w) hp (isInstance (.ref b) (.type "collections.OrderedDict")) false := T1.andThen (looks_subIn X (by k_is))
  refine wpAny_call (codeAny_call_builtin pop_plain PySem.F.entry_dict_pop ?_)
  refine @check_meth (model PySem.Challenge.rw_in0186_01.row.prog w) _ _ ⟨hp, gs, dr, tk, os⟩ "dict.pop" "dict" "pop" (.ref b) [.str k t, .none] _ pop_kind pop_split LS (pop_args _ _ _) ?_
  unfold Builtin.«dict.pop»
  refine wpAny_bind (book_kad (by decide +kernel) T1 LO ?_)
  dsimp only
  rw [if_pos (by rfl)]
  refine wpAny_bind (wpAny_pure ?_)
  rw [if_neg (by decide)]
  have hkey : (PySem.strKind PySem.Challenge.rw_in0186_01.row.prog w).is k (.str k t) = true := by show Value.isStrOf k (.str k t) = true; simp [Value.isStrOf]
  unfold Builtin.Dict.takeOut
  refine wpAny_bind (wpAny_holding (wpAny_bind ((PySem.strKind PySem.Challenge.rw_in0186_01.row.prog w).pyHash hkey (wpAny_bind (wpAny_dictFind_of (knd := PySem.strKind PySem.Challenge.rw_in0186_01.row.prog w) hkey hb rfl ent_keys ?_)))))
  rw [ent_idx]
  cases ha : atE (es.map EntC.e) k with
  | none =>
    rw [idx_none ha]
    have hno := atE_none ha
    refine wpAny_pure ?_
    rw [if_pos (by rfl)]
    unfold Builtin.Dict.missedRemoval
    rw [if_neg (by rw [S.sys]; decide)]
    refine wpAny_bind (wpAny_pure (wpAny_bind (wpAny_rule (wpAny_pure ?_))))
    have := hq .none hp (tk + 1) news ep F N (by rw [filter_all hno]; exact S)
    exact this
  | some l =>
    obtain ⟨i, e, h1, h2, h3, h4⟩ := idx_some ha
    rw [h1]
    refine wpAny_bind (wpAny_dictEntries hb rfl ?_)
    have he : ((es.map EntC.e).map (entOf w)).toArray[i]? = some (entOf w e) := by
      rw [List.getElem?_toArray, List.getElem?_map, h2]; rfl
    rw [he]
    refine wpAny_bind (wpAny_updateDictKeys (hz := by simpa using hz) (hf := erase_size _ _) hb rfl ?_)
    refine wpAny_pure ?_
    rw [if_neg (by simp)]
    refine wpAny_bind (wpAny_letGo (wpAny_pure ?_))
    obtain ⟨nx', S', hsub⟩ := S.drop k (ep + 1)
    have ho : (hp.update b (Obj.mapDictKeys fun x => x.eraseIdxIfInBounds i)).get? b = some (bookO w ((es.filter fun x => decide (x.n ≠ k)).map EntC.e) (ep + 1) d) := by
      rw [Heap.get?_update_self _ hb (Obj.isFreed_of_dict (Obj.data_mapDictKeys rfl _)), ← erase_filter S.ndn h1]
      simp [Obj.mapDictKeys, bookO, erase_map]
    have G := same_grew (Heap.SameBut.update ..) ho
    have nb := N _ S.book
    exact hq _ _ _ nx' (ep + 1) (grew_fr G F nb.2.1 nb.2.2) (fun p hp' => grew_news G F N p (List.mem_append.mpr (.inr (hsub p hp')))) S'
end
end
section
open PySem PySem.W PySem.Calls
open PyProof.Rows hiding wpAt wpAt_mono wpAt_bind wpAt_stack strKind
open PySem.W.X (Mem)
set_option Elab.async false
set_option maxRecDepth 100000
set_option maxHeartbeats 2000000
set_option pp.deepTerms false
set_option pp.maxSteps 3000
section
open PySem.W.X
variable {w : World} {hp : Heap} {gs : Array GenState} {dr : Drawn} {tk : Nat} {os : OsState} {Q E : Value → Shared → Prop}
local macro_rules | `(tactic| x_close) => `(tactic| ((with_reducible rename Ret _ => hr9); (have hz9 := Ret.out hr9); first | exact hz9 _ _ _ _ _ (by assumption)))
theorem x_newbook (X : (hd.heap_1 w.params).In hp)
   (hret : Ret <| ∀ r d nw h' tk', Mem hp h' [] ((r, { cls := .ref 108, dict := some d, data := .dict #[] 0, slots := #[some (.type "list")] }) :: (d, emptyDict) :: nw) → Q (.ref r) ⟨h', gs, dr, tk', os⟩) :
    wpAny (model PySem.Challenge.rw_in0186_01.row.prog w) A0 (call (.ref 108) [.type "list"]) Q E ⟨hp, gs, dr, tk, os⟩ := by
  k_fill
  x_run
end
open PySem.W.X (Mem)
section
variable {w : World} {A : Around} {Q E : Value → Shared → Prop} {s : Shared} {h₀ : Heap} {L : Addr} {m : Str → Option Value} {news : List (Addr × Obj)}
theorem op_new (hh : A.handled = none) (hdp : A.depth ≤ 800) (hun : A.units ≤ 8000) (F : Fr h₀ L s.heap m) (X : (hd.heap_1 w.params).In h₀) (N : News h₀ L s.heap news) {mean : ExcName → Option Value} {mg mb : Str → Option Value} (T : Top topProg lo mean mg mb h₀)
    (hq : ∀ b d h' tk' nx', Fr h₀ L h' m → News h₀ L h' nx' → BookSt w b d 0 [] ((d, emptyDict) :: news) nx' → (∀ q ∈ news, q.1 ≠ b ∧ q.1 ≠ d) → Q (.ref b) { s with heap := h', toks := tk' }) :
    wpAny (model PySem.Challenge.rw_in0186_01.row.prog w) A (call (.ref 108) [.type "list"]) Q E s := by
  revert X; k_fill; intro X
  obtain ⟨hp, gs, dr, tk, os⟩ := s
  refine under0 hh hdp hun (x_newbook (X.keeps F.keep) ⟨fun b d nw h' tk' D => ?_⟩)
  have F' := keep_fr (mem_keep D) F
  have N' := mem_news D F N
  have ne : b ≠ d := by
    have := D.ord
    simp only [List.map_cons] at this
    exact Nat.ne_of_gt ((List.pairwise_cons.mp this).1 d (.head _))
  refine hq b d h' tk' ((b, bookO w [] 0 d) :: (d, emptyDict) :: news) F' (fun p hp => N' p ?_) ⟨rfl, by simp, (fun x hx => nomatch hx), ?_, (fun p _ x hx => nomatch hx), by simp, (fun x hx => nomatch hx), ?_⟩ fun q hq' => ⟨mem_off D N _ (.head _) _ hq', mem_off D N _ (.tail _ (.head _)) _ hq'⟩
  · rcases List.mem_cons.mp hp with rfl | hp
    · exact .head _
    · rcases List.mem_cons.mp hp with rfl | hp
      · exact .tail _ (.head _)
      · exact List.mem_append.mpr (.inr hp)
  · intro p hp
    rcases List.mem_cons.mp hp with rfl | hp
    · exact Ne.symm ne
    · exact mem_off D N _ (.head _) _ hp
  · cases c : (b == sysModules) with
    | false => rfl
    | true =>
      exfalso
      have hb1 : b = 1 := beq_iff_eq.mp c
      have hlt : d < b := by
        have := D.ord
        simp only [List.map_cons] at this
        exact (List.pairwise_cons.mp this).1 d (.head _)
      have hd0 : d = 0 := by
        have : d < 1 := hb1 ▸ hlt
        exact Nat.lt_one_iff.mp this
      obtain ⟨o, es, ep, e, _⟩ := T.b
      have e' := F.keep _ _ e
      have z := (D.nw _ (.tail _ (.head _))).2
      rw [show ((d, emptyDict) : Addr × Obj).1 = d from rfl, hd0] at z
      have z' : hp.get? builtinsNs = none := z
      rw [z'] at e'
      cases e'
theorem frozen_mono {b d : Addr} {l l' : List (Addr × Obj)} (h : ∀ p ∈ l, p ∈ l') (hf : Frozen w l b d) : Frozen w l' b d := by
  obtain ⟨fn, sc, c', oc, so0, vs, tq, t2, ctv, pm, ps, bdy, scp, h1, h2, h3, h4, h5, h6, h7, h8, tp, h9⟩ := hf
  exact ⟨fn, sc, c', oc, so0, vs, tq, t2, ctv, pm, ps, bdy, scp, h1, h _ h2, h _ h3, h _ h4, h5, h _ h6, h7, h8, tp, h _ h9⟩
end
theorem op_freeze (w : World) {mean : ExcName → Option Value} {mg mb : Str → Option Value} {dp un : Nat} {gd : Option (List Code)} {cn : Str} {cs : Scope} {a : Addr} {ccd : Value} {cl : List (Str × Addr)} {outer : List Env} {A₀ : Around} {base h₀ : Heap} {L : Addr} {m : Str → Option Value} {s : Shared} {news : List (Addr × Obj)} {Q E : Value → Shared → Prop} {b d : Addr} {ep : Nat} {es : List EntC} {other o1 : List (Addr × Obj)} (B : Below A₀ base outer h₀) (F : Fr h₀ L s.heap m) (X : (hd.heap_1 w.params).In h₀) (N : News h₀ L s.heap news) (T : Top topProg lo mean mg mb h₀) (hk : cs.kind = .function) (hdp : dp ≤ 690) (hun : un ≤ 6900)
    (S : BookSt w b d ep es other news) (ho : other = (d, emptyDict) :: (100, tabObj #[]) :: o1) (hd1 : d ≠ 100) (hod : ∀ p ∈ o1, p.1 ≠ d ∧ p.1 ≠ 100) (hed : ∀ x ∈ es, x.l ≠ d ∧ x.l ≠ 100)
    (hq : ∀ h' tk' own nx', Fr h₀ L h' m → News h₀ L h' nx' → BookSt w b d ep es (own ++ o1) nx' → Frozen w own b d → (∀ p ∈ own, ∀ q ∈ o1, q.1 ≠ p.1) → Q .none { s with heap := h', toks := tk' }) :
    wpAny (model PySem.Challenge.rw_in0186_01.row.prog w) (ktrTop dp un gd cn cs L a ccd cl outer) (call (.ref 105) [.ref b]) Q E s := by
  subst ho
  have hb1 : b ≠ 100 := Ne.symm (S.ob _ (.tail _ (.head _)))
  have hbd : b ≠ d := Ne.symm (S.ob _ (.head _))
  have N1 : News h₀ L s.heap ((b, bookO w (es.map EntC.e) ep d) :: (d, emptyDict) :: (100, tabObj #[]) :: (es.map EntC.o ++ o1)) := fun p hp => N p (by
    rcases List.mem_cons.mp hp with rfl | hp
    · exact S.book
    · rcases List.mem_cons.mp hp with rfl | hp
      · exact S.oth (.head _)
      · rcases List.mem_cons.mp hp with rfl | hp
        · exact S.oth (.tail _ (.head _))
        · rcases List.mem_append.mp hp with hp | hp
          · obtain ⟨x, hx, rfl⟩ := List.mem_map.mp hp
            exact S.list hx
          · exact S.oth (.tail _ (.tail _ hp)))
  refine freeze_spec w B F X N1 T hk hdp hun rfl hbd hb1 hd1 ?_ ?_ ?_ ?_
  · intro p hp
    rcases List.mem_append.mp hp with hp | hp
    · obtain ⟨x, hx, rfl⟩ := List.mem_map.mp hp
      exact S.nb x hx
    · exact S.ob p (.tail _ (.tail _ hp))
  · intro p hp
    rcases List.mem_append.mp hp with hp | hp
    · obtain ⟨x, hx, rfl⟩ := List.mem_map.mp hp
      exact (hed x hx).1
    · exact (hod p hp).1
  · intro p hp
    rcases List.mem_append.mp hp with hp | hp
    · obtain ⟨x, hx, rfl⟩ := List.mem_map.mp hp
      exact (hed x hx).2
    · exact (hod p hp).2
  · intro h' tk' own F' N' hf ob oo
    refine hq h' tk' own _ F' (fun p hp => N' p ?_) ⟨rfl, S.ndl, S.nb, ?_, ?_, S.ndn, S.txt, S.sys⟩ hf fun p hp q hq' => oo p hp q (List.mem_append.mpr (.inr hq'))
    · rcases List.mem_cons.mp hp with rfl | hp
      · exact .head _
      · rcases List.mem_append.mp hp with hp | hp
        · exact .tail _ (List.mem_append.mpr (.inr (List.mem_append.mpr (.inl hp))))
        · rcases List.mem_append.mp hp with hp | hp
          · exact .tail _ (List.mem_append.mpr (.inl hp))
          · exact .tail _ (List.mem_append.mpr (.inr (List.mem_append.mpr (.inr hp))))
    · intro p hp
      rcases List.mem_append.mp hp with hp | hp
      · exact ob p hp
      · exact S.ob p (.tail _ (.tail _ hp))
    · intro p hp x hx
      rcases List.mem_append.mp hp with hp | hp
      · exact Ne.symm (oo p hp _ (List.mem_append.mpr (.inl (List.mem_map.mpr ⟨x, hx, rfl⟩))))
      · exact S.oe p (.tail _ (.tail _ hp)) x hx
end
section
open PySem PySem.W PySem.Calls
open PyProof.Rows hiding wpAt wpAt_mono wpAt_bind wpAt_stack strKind
open PySem.W.X (Mem)
set_option Elab.async false
set_option maxRecDepth 100000
set_option maxHeartbeats 2000000
set_option pp.deepTerms false
set_option pp.maxSteps 3000
structure Deed where
  n : Str
  k : Int
  v : Str
  p : Int
abbrev Tab := List (Str × List Str)
def addTo (tab : Tab) (n v : Str) : Tab := tab.map fun r => if r.1 = n then (r.1, r.2 ++ [v]) else r
def hasN (tab : Tab) (n : Str) : Prop := ∃ r ∈ tab, r.1 = n
def lookD (tab : Tab) (n : Str) : List Str := ((tab.find? fun r => decide (r.1 = n)).map (·.2)).getD []
open Classical in
noncomputable def act (fz : Bool) (tab : Tab) (D : Deed) : Tab :=
  if D.k < 3 then (if hasN tab D.n then addTo tab D.n D.v else if fz then tab else tab ++ [(D.n, [D.v])])
  else if D.k = 3 then (if hasN tab D.n then tab else if fz then tab else tab ++ [(D.n, [])])
  else if D.k = 4 then (if hasN tab D.n then addTo tab D.n D.v else tab ++ [(D.n, [D.v])])
  else tab.filter fun r => decide (r.1 ≠ D.n)
noncomputable def runTo (ds : List Deed) (u : Int) : Nat → Tab × List (List Str)
  | 0 => ([], [])
  | i + 1 => match ds[i]? with
    | some D => (act (decide (u ≤ (i : Int))) (runTo ds u i).1 D, if D.k = 3 then (runTo ds u i).2 ++ [lookD (runTo ds u i).1 D.n] else (runTo ds u i).2)
    | none => runTo ds u i
def rows (es : List EntC) : Tab := es.map fun x => (x.n, x.ws)
section
variable {es : List EntC} {k : Str}
theorem rows_has : hasN (rows es) k ↔ ∃ x ∈ es, x.n = k := by
  constructor
  · rintro ⟨r, hr, e⟩
    obtain ⟨x, hx, rfl⟩ := List.mem_map.mp hr
    exact ⟨x, hx, e⟩
  · rintro ⟨x, hx, e⟩
    exact ⟨_, List.mem_map.mpr ⟨x, hx, rfl⟩, e⟩
theorem rows_not (h : ∀ x ∈ es, x.n ≠ k) : ¬ hasN (rows es) k := fun z => let ⟨x, hx, e⟩ := rows_has.mp z; h x hx e
theorem inj_n (h : (es.map EntC.n).Nodup) {x y : EntC} (hx : x ∈ es) (hy : y ∈ es) (e : x.n = y.n) : x = y := by
  induction es with
  | nil => cases hx
  | cons a r ih =>
    rw [List.map_cons, List.nodup_cons] at h
    rcases List.mem_cons.mp hx with hx1 | hx1 <;> rcases List.mem_cons.mp hy with hy1 | hy1
    · rw [hx1, hy1]
    · exact absurd (List.mem_map.mpr ⟨y, hy1, by rw [← e, hx1]⟩) h.1
    · exact absurd (List.mem_map.mpr ⟨x, hx1, by rw [e, hy1]⟩) h.1
    · exact ih h.2 hx1 hy1
theorem rows_app (hl : (es.map EntC.l).Nodup) (hn : (es.map EntC.n).Nodup) {x : EntC} (hx : x ∈ es) (v : Value) (y : Str) : rows (app es x.l v y) = addTo (rows es) x.n y := by
  unfold rows app addTo
  rw [List.map_map, List.map_map]
  refine List.map_congr_left fun z hz => ?_
  by_cases c : z = x
  · subst c; simp
  · have h1 : z.l ≠ x.l := fun e => c (inj_l hl hz hx e)
    have h2 : z.n ≠ x.n := fun e => c (inj_n hn hz hx e)
    simp [h1, h2]
theorem rows_add {t : Tok} {l : Addr} : rows (es ++ [newE k t l]) = rows es ++ [(k, [])] := by simp [rows, newE]
theorem rows_drop : rows (es.filter fun x => decide (x.n ≠ k)) = (rows es).filter fun r => decide (r.1 ≠ k) := by
  unfold rows
  induction es with
  | nil => rfl
  | cons a r ih =>
    rw [List.filter_cons, List.map_cons, List.filter_cons]
    by_cases c : a.n = k
    · simpa [c] using ih
    · simpa [c] using ih
theorem rows_look (hn : (es.map EntC.n).Nodup) {x : EntC} (hx : x ∈ es) : lookD (rows es) x.n = x.ws := by
  unfold lookD rows
  induction es with
  | nil => cases hx
  | cons a r ih =>
    rw [List.map_cons, List.find?_cons]
    by_cases c : a.n = x.n
    · rw [inj_n hn (.head _) hx c]; simp
    · have : x ∈ r := by
        rcases List.mem_cons.mp hx with e | h
        · exact absurd (by rw [e]) c
        · exact h
      rw [List.map_cons, List.nodup_cons] at hn
      simpa [c] using ih hn.2 this
theorem look_none (h : ∀ x ∈ es, x.n ≠ k) : lookD (rows es) k = [] := by
  unfold lookD rows
  rw [List.find?_eq_none.mpr]
  · rfl
  · intro r hr
    obtain ⟨x, hx, rfl⟩ := List.mem_map.mp hr
    simpa using h x hx
theorem addTo_new {tab : Tab} (h : ¬ hasN tab k) (v : Str) : addTo (tab ++ [(k, [])]) k v = tab ++ [(k, [v])] := by
  unfold addTo
  rw [List.map_append]
  have : tab.map (fun r => if r.1 = k then (r.1, r.2 ++ [v]) else r) = tab := by
    conv => rhs; rw [← List.map_id tab]
    refine List.map_congr_left fun r hr => ?_
    rw [if_neg fun e => h ⟨r, hr, e⟩]; rfl
  rw [this]; simp
end
end
section
open PySem PySem.W PySem.Calls
open PyProof.Rows hiding wpAt wpAt_mono wpAt_bind wpAt_stack strKind
open PySem.W.X (Mem)
set_option Elab.async false
set_option maxRecDepth 100000
set_option maxHeartbeats 2000000
set_option pp.deepTerms false
set_option pp.maxSteps 3000
def TxtAt (o : List (Addr × Obj)) (v : Value) (ws : List Str) : Prop := ∃ a vs n, v = .ref a ∧ (a, listOf vs.toArray n) ∈ o ∧ StrsAre vs ws
inductive TxtsAt (o : List (Addr × Obj)) : List Value → List (List Str) → Prop
  | nil : TxtsAt o [] []
  | cons {v : Value} {ws : List Str} {vs : List Value} {r : List (List Str)} : TxtAt o v ws → TxtsAt o vs r → TxtsAt o (v :: vs) (ws :: r)
theorem TxtsAt.mono {o o' : List (Addr × Obj)} (h : ∀ p ∈ o, p ∈ o') {vs : List Value} {r : List (List Str)} (t : TxtsAt o vs r) : TxtsAt o' vs r := by
  induction t with
  | nil => exact .nil
  | cons x _ ih => obtain ⟨a, us, n, e1, e2, e3⟩ := x; exact .cons ⟨a, us, n, e1, h _ e2, e3⟩ ih
theorem TxtsAt.snoc {o : List (Addr × Obj)} {vs : List Value} {r : List (List Str)} {v : Value} {ws : List Str} (t : TxtsAt o vs r) (x : TxtAt o v ws) : TxtsAt o (vs ++ [v]) (r ++ [ws]) := by
  induction t with
  | nil => exact .cons x .nil
  | cons y _ ih => exact .cons y ih
theorem TxtsAt.length {o : List (Addr × Obj)} {vs : List Value} {r : List (List Str)} (t : TxtsAt o vs r) : vs.length = r.length := by
  induction t with
  | nil => rfl
  | cons y _ ih => rw [List.length_cons, List.length_cons, ih]
def Phase (w : World) (o2 : List (Addr × Obj)) (b d : Addr) : Bool → Prop
  | true => Frozen w o2 b d
  | false => ∃ o1, (∀ p, p ∈ o2 ↔ p ∈ (d, emptyDict) :: (100, tabObj #[]) :: o1) ∧ d ≠ 100 ∧ ∀ p ∈ o1, p.1 ≠ d ∧ p.1 ≠ 100
structure RunSt (w : World) (rest own : List (Addr × Obj)) (b d sl : Addr) (tab : Tab) (seen : List (List Str)) (fz : Bool) (ep : Nat) (es : List EntC) (sv : List Value) (sn : Nat) (o2 nx : List (Addr × Obj)) : Prop where
  S : BookSt w b d ep es (own ++ (sl, listOf sv.toArray sn) :: o2) nx
  tab : rows es = tab
  seen : TxtsAt o2 sv seen
  slo : ∀ p ∈ o2, p.1 ≠ sl
  slw : ∀ p ∈ own, p.1 ≠ sl
  oo : ∀ p ∈ own, ∀ q ∈ o2, p.1 ≠ q.1
  rest : ∀ p ∈ rest, p ∈ o2
  ph : Phase w o2 b d fz
section
variable {w : World} {rest own : List (Addr × Obj)} {b d sl : Addr} {tab : Tab} {seen : List (List Str)} {fz : Bool} {ep : Nat} {es : List EntC} {sv : List Value} {sn : Nat} {o2 nx : List (Addr × Obj)}
theorem BookSt.swap {other other2 : List (Addr × Obj)} (S : BookSt w b d ep es other nx) (h : ∀ p ∈ other2, p ∈ other) : ∃ nx', BookSt w b d ep es other2 nx' ∧ ∀ p ∈ nx', p ∈ nx := by
  refine ⟨_, ⟨rfl, S.ndl, S.nb, fun p hp => S.ob p (h p hp), fun p hp => S.oe p (h p hp), S.ndn, S.txt, S.sys⟩, fun p hp => ?_⟩
  rcases List.mem_cons.mp hp with rfl | hp
  · exact S.book
  · rcases List.mem_append.mp hp with hp | hp
    · obtain ⟨x, hx, rfl⟩ := List.mem_map.mp hp
      exact S.list hx
    · exact S.oth (h p hp)
theorem BookSt.ext {other : List (Addr × Obj)} (S : BookSt w b d ep es other nx) {x : Addr × Obj} (h : ∀ q ∈ nx, q.1 ≠ x.1) : ∃ nx', BookSt w b d ep es (x :: other) nx' ∧ ∀ p ∈ nx', p ∈ x :: nx := by
  refine ⟨_, ⟨rfl, S.ndl, S.nb, ?_, ?_, S.ndn, S.txt, S.sys⟩, fun p hp => ?_⟩
  · intro p hp
    rcases List.mem_cons.mp hp with rfl | hp
    · exact Ne.symm (h _ S.book)
    · exact S.ob p hp
  · intro p hp y hy
    rcases List.mem_cons.mp hp with rfl | hp
    · exact Ne.symm (h _ (S.list hy))
    · exact S.oe p hp y hy
  · rcases List.mem_cons.mp hp with rfl | hp
    · exact .tail _ S.book
    · rcases List.mem_append.mp hp with hp | hp
      · obtain ⟨y, hy, rfl⟩ := List.mem_map.mp hp
        exact .tail _ (S.list hy)
      · rcases List.mem_cons.mp hp with rfl | hp
        · exact .head _
        · exact .tail _ (S.oth hp)
theorem Phase.ext {x : Addr × Obj} (hp : Phase w o2 b d fz) (hx : ∀ q ∈ o2, q.1 ≠ x.1) : Phase w (x :: o2) b d fz := by
  cases fz with
  | true => exact frozen_mono (fun p h => .tail _ h) hp
  | false =>
    obtain ⟨o1, h1, h2, h3⟩ := hp
    refine ⟨x :: o1, fun p => ?_, h2, ?_⟩
    · simp only [List.mem_cons, h1 p]
      constructor
      · rintro (h | h | h | h)
        · exact .inr (.inr (.inl h))
        · exact .inl h
        · exact .inr (.inl h)
        · exact .inr (.inr (.inr h))
      · rintro (h | h | h | h)
        · exact .inr (.inl h)
        · exact .inr (.inr (.inl h))
        · exact .inl h
        · exact .inr (.inr (.inr h))
    · intro p h
      rcases List.mem_cons.mp h with rfl | h
      · exact ⟨Ne.symm (hx _ ((h1 _).mpr (.head _))), Ne.symm (hx _ ((h1 _).mpr (.tail _ (.head _))))⟩
      · exact h3 p h
theorem RunSt.o2in (R : RunSt w rest own b d sl tab seen fz ep es sv sn o2 nx) {p : Addr × Obj} (h : p ∈ o2) : p ∈ nx := R.S.oth (List.mem_append.mpr (.inr (.tail _ h)))
theorem RunSt.slin (R : RunSt w rest own b d sl tab seen fz ep es sv sn o2 nx) : (sl, listOf sv.toArray sn) ∈ nx := R.S.oth (List.mem_append.mpr (.inr (.head _)))
theorem RunSt.ownin (R : RunSt w rest own b d sl tab seen fz ep es sv sn o2 nx) {p : Addr × Obj} (h : p ∈ own) : p ∈ nx := R.S.oth (List.mem_append.mpr (.inl h))
theorem RunSt.ext (R : RunSt w rest own b d sl tab seen fz ep es sv sn o2 nx) {x : Addr × Obj} (h : ∀ q ∈ nx, q.1 ≠ x.1) :
    ∃ nx', RunSt w rest own b d sl tab seen fz ep es sv sn (x :: o2) nx' ∧ ∀ p ∈ nx', p ∈ x :: nx := by
  obtain ⟨n1, S1, h1⟩ := R.S.ext h
  obtain ⟨n2, S2, h2⟩ := S1.swap (other2 := own ++ (sl, listOf sv.toArray sn) :: x :: o2) (fun p hp => by
    rcases List.mem_append.mp hp with hp | hp
    · exact .tail _ (List.mem_append.mpr (.inl hp))
    · rcases List.mem_cons.mp hp with rfl | hp
      · exact .tail _ (List.mem_append.mpr (.inr (.head _)))
      · rcases List.mem_cons.mp hp with rfl | hp
        · exact .head _
        · exact .tail _ (List.mem_append.mpr (.inr (.tail _ hp))))
  refine ⟨n2, ⟨S2, R.tab, R.seen.mono fun p hp => .tail _ hp, ?_, R.slw, ?_, fun p hp => .tail _ (R.rest p hp), R.ph.ext fun q hq => h q (R.o2in hq)⟩, fun p hp => h1 p (h2 p hp)⟩
  · intro p hp
    rcases List.mem_cons.mp hp with rfl | hp
    · exact Ne.symm (h _ R.slin)
    · exact R.slo p hp
  · intro p hp q hq
    rcases List.mem_cons.mp hq with rfl | hq
    · exact h p (R.ownin hp)
    · exact R.oo p hp q hq
theorem RunSt.book' (R : RunSt w rest own b d sl tab seen fz ep es sv sn o2 nx) {tab' : Tab} {ep' : Nat} {es' : List EntC} {nx' : List (Addr × Obj)} (S' : BookSt w b d ep' es' (own ++ (sl, listOf sv.toArray sn) :: o2) nx') (e : rows es' = tab') :
    RunSt w rest own b d sl tab' seen fz ep' es' sv sn o2 nx' := ⟨S', e, R.seen, R.slo, R.slw, R.oo, R.rest, R.ph⟩
theorem RunSt.frz (R : RunSt w rest own b d sl tab seen fz ep es sv sn o2 nx) : ((d, emptyDict) ∈ own ++ (sl, listOf sv.toArray sn) :: o2 ∧ fz = false) ∨ (Frozen w (own ++ (sl, listOf sv.toArray sn) :: o2) b d ∧ fz = true) := by
  have hp := R.ph
  cases fz with
  | true => exact .inr ⟨frozen_mono (fun p h => List.mem_append.mpr (.inr (.tail _ h))) hp, rfl⟩
  | false =>
    obtain ⟨o1, h1, _⟩ := hp
    exact .inl ⟨List.mem_append.mpr (.inr (.tail _ ((h1 _).mpr (.head _)))), rfl⟩
end
end
section
open PySem PySem.W PySem.Calls
open PyProof.Rows hiding wpAt wpAt_mono wpAt_bind wpAt_stack strKind
open PySem.W.X (Mem)
set_option Elab.async false
set_option maxRecDepth 100000
set_option maxHeartbeats 2000000
set_option pp.deepTerms false
set_option pp.maxSteps 3000
section
variable {w : World} {A : Around} {Q E : Value → Shared → Prop} {s : Shared} {h₀ : Heap} {L : Addr} {m : Str → Option Value} {rest own : List (Addr × Obj)} {b d sl : Addr} {tab : Tab} {seen : List (List Str)} {fz : Bool} {ep : Nat} {es : List EntC} {sv : List Value} {sn : Nat} {o2 nx : List (Addr × Obj)} {k : Str} {t : Tok}
theorem R_seenAppend {xa : Addr} {ws : List Str} (F : Fr h₀ L s.heap m) (N : News h₀ L s.heap nx) (R : RunSt w rest own b d sl tab seen fz ep es sv sn o2 nx) (hx : TxtAt o2 (.ref xa) ws) (hz : sv.length ≤ sizeLine)
    (hq : ∀ h' nx', Fr h₀ L h' m → News h₀ L h' nx' → RunSt w rest own b d sl tab (seen ++ [ws]) fz ep es (sv ++ [.ref xa]) (sn + 1) o2 nx' → Q .none { s with heap := h' }) :
    wpAny (model PySem.Challenge.rw_in0186_01.row.prog w) A (call (.builtin "list.append") [.ref sl, .ref xa]) Q E s := by
  have nl := N _ R.slin
  refine append_at (hsz := by simpa using hz) nl.1 fun h' hs ho => ?_
  have G := same_grew hs ho
  have hsb : sl ≠ b := R.S.ob _ (List.mem_append.mpr (.inr (.head _)))
  have hse : ∀ x ∈ es, sl ≠ x.l := fun x hx => R.S.oe _ (List.mem_append.mpr (.inr (.head _))) x hx
  refine hq h' _ (grew_fr G F nl.2.1 nl.2.2) (fun p hp => grew_news G F N p (List.mem_append.mpr (.inr ?_))) ⟨⟨rfl, R.S.ndl, R.S.nb, ?_, ?_, R.S.ndn, R.S.txt, R.S.sys⟩, R.tab, R.seen.snoc hx, R.slo, R.slw, R.oo, R.rest, R.ph⟩
  · rcases List.mem_cons.mp hp with rfl | hp
    · exact upd_off R.S.book (Ne.symm hsb)
    · rcases List.mem_append.mp hp with hp | hp
      · obtain ⟨y, hy, rfl⟩ := List.mem_map.mp hp
        exact upd_off (R.S.list hy) (Ne.symm (hse y hy))
      · rcases List.mem_append.mp hp with hp | hp
        · exact upd_off (R.ownin hp) (R.slw p hp)
        · rcases List.mem_cons.mp hp with rfl | hp
          · have := upd_mem (o := listOf ((sv ++ [Value.ref xa]).toArray) (sn + 1)) R.slin
            rwa [← List.push_toArray] at this ⊢
          · exact upd_off (R.o2in hp) (R.slo p hp)
  · intro p hp
    rcases List.mem_append.mp hp with hp | hp
    · exact R.S.ob p (List.mem_append.mpr (.inl hp))
    · rcases List.mem_cons.mp hp with rfl | hp
      · exact hsb
      · exact R.S.ob p (List.mem_append.mpr (.inr (.tail _ hp)))
  · intro p hp
    rcases List.mem_append.mp hp with hp | hp
    · exact R.S.oe p (List.mem_append.mpr (.inl hp))
    · rcases List.mem_cons.mp hp with rfl | hp
      · exact hse
      · exact R.S.oe p (List.mem_append.mpr (.inr (.tail _ hp)))
end
theorem R_get (w : World) {mean : ExcName → Option Value} {mg mb : Str → Option Value} {dp un : Nat} {gd : Option (List Code)} {cn : Str} {cs : Scope} {a : Addr} {ccd : Value} {cl : List (Str × Addr)} {outer : List Env} {A₀ : Around} {base h₀ : Heap} {L : Addr} {m : Str → Option Value} {s : Shared} {news : List (Addr × Obj)} {Q E : Value → Shared → Prop} {rest own : List (Addr × Obj)} {b d sl : Addr} {tab : Tab} {seen : List (List Str)} {fz : Bool} {ep : Nat} {es : List EntC} {sv : List Value} {sn : Nat} {o2 : List (Addr × Obj)} {k : Str} {t : Tok} (B : Below A₀ base outer h₀) (F : Fr h₀ L s.heap m) (X : (hd.heap_1 w.params).In h₀) (N : News h₀ L s.heap news) (T : Top topProg lo mean mg mb h₀) (hk : cs.kind = .function) (hdp : dp ≤ 690) (hun : un ≤ 6900)
    (R : RunSt w rest own b d sl tab seen fz ep es sv sn o2 news) (hz : es.length ≤ sizeLine)
    (hit : ∀ x ∈ es, x.n = k → ∀ tk', Q (.ref x.l) { s with toks := tk' })
    (hopen : fz = false → (∀ x ∈ es, x.n ≠ k) → ∀ l h' tk' nx', Fr h₀ L h' m → News h₀ L h' nx' → RunSt w rest own b d sl (tab ++ [(k, [])]) seen fz (ep + 1) (es ++ [newE k t l]) sv sn o2 nx' → Q (.ref l) { s with heap := h', toks := tk' })
    (hfroz : fz = true → (∀ x ∈ es, x.n ≠ k) → ∀ l h' tk', Fr h₀ L h' m → News h₀ L h' ((l, emptyL) :: news) → (∀ q ∈ news, q.1 ≠ l) → Q (.ref l) { s with heap := h', toks := tk' }) :
    wpAny (model PySem.Challenge.rw_in0186_01.row.prog w) (ktrTop dp un gd cn cs L a ccd cl outer) (getItem (.ref b) (.str k t)) Q E s := by
  refine op_getItem w B F X N T hk hdp hun R.S hz (R.frz.imp And.left And.left) hit ?_ ?_
  · intro hd' hno l h' tk' nx' F' N' S'
    have e : fz = false := by
      rcases R.frz with z | z
      · exact z.2
      · exfalso
        obtain ⟨fn, sc, c', oc, so0, vs, tq, t2, ctv, pm, ps, bdy, scp, h1, h2, _⟩ := z.1
        have a1 := (N _ (R.S.oth hd')).1
        have a2 := (N _ (R.S.oth h2)).1
        dsimp only at a1 a2
        rw [a1] at a2
        simp [frozenDict] at a2
    exact hopen e hno l h' tk' nx' F' N' (R.book' S' (by rw [rows_add, R.tab]))
  · intro hf hno l h' tk' F' N' hl
    have e : fz = true := by
      rcases R.frz with z | z
      · exfalso
        obtain ⟨fn, sc, c', oc, so0, vs, tq, t2, ctv, pm, ps, bdy, scp, h1, h2, _⟩ := hf
        have a1 := (N _ (R.S.oth z.1)).1
        have a2 := (N _ (R.S.oth h2)).1
        dsimp only at a1 a2
        rw [a1] at a2
        simp [frozenDict] at a2
      · exact z.2
    exact hfroz e hno l h' tk' F' N' hl
theorem R_freeze (w : World) {mean : ExcName → Option Value} {mg mb : Str → Option Value} {dp un : Nat} {gd : Option (List Code)} {cn : Str} {cs : Scope} {a : Addr} {ccd : Value} {cl : List (Str × Addr)} {outer : List Env} {A₀ : Around} {base h₀ : Heap} {L : Addr} {m : Str → Option Value} {s : Shared} {news : List (Addr × Obj)} {Q E : Value → Shared → Prop} {rest own : List (Addr × Obj)} {b d sl : Addr} {tab : Tab} {seen : List (List Str)} {ep : Nat} {es : List EntC} {sv : List Value} {sn : Nat} {o2 : List (Addr × Obj)} (B : Below A₀ base outer h₀) (F : Fr h₀ L s.heap m) (X : (hd.heap_1 w.params).In h₀) (N : News h₀ L s.heap news) (T : Top topProg lo mean mg mb h₀) (hk : cs.kind = .function) (hdp : dp ≤ 690) (hun : un ≤ 6900)
    (R : RunSt w rest own b d sl tab seen false ep es sv sn o2 news) (hrest : ∀ p ∈ rest, p.1 ≠ d ∧ p.1 ≠ 100)
    (hq : ∀ h' tk' o2' nx', Fr h₀ L h' m → News h₀ L h' nx' → RunSt w rest own b d sl tab seen true ep es sv sn o2' nx' → Q .none { s with heap := h', toks := tk' }) :
    wpAny (model PySem.Challenge.rw_in0186_01.row.prog w) (ktrTop dp un gd cn cs L a ccd cl outer) (call (.ref 105) [.ref b]) Q E s := by
  obtain ⟨o1, h1, h2, h3⟩ := R.ph
  have hdin : (d, emptyDict) ∈ o2 := (h1 _).mpr (.head _)
  have htin : ((100, tabObj #[]) : Addr × Obj) ∈ o2 := (h1 _).mpr (.tail _ (.head _))
  have hsub : ∀ p ∈ o1, p ∈ o2 := fun p hp => (h1 _).mpr (.tail _ (.tail _ hp))
  obtain ⟨n1, S1, hn1⟩ := R.S.swap (other2 := (d, emptyDict) :: (100, tabObj #[]) :: (own ++ (sl, listOf sv.toArray sn) :: o1)) (fun p hp => by
    rcases List.mem_cons.mp hp with rfl | hp
    · exact List.mem_append.mpr (.inr (.tail _ hdin))
    · rcases List.mem_cons.mp hp with rfl | hp
      · exact List.mem_append.mpr (.inr (.tail _ htin))
      · rcases List.mem_append.mp hp with hp | hp
        · exact List.mem_append.mpr (.inl hp)
        · rcases List.mem_cons.mp hp with rfl | hp
          · exact List.mem_append.mpr (.inr (.head _))
          · exact List.mem_append.mpr (.inr (.tail _ (hsub p hp))))
  refine op_freeze w B F X (fun p hp => N p (hn1 p hp)) T hk hdp hun S1 rfl h2 ?_ (fun x hx => ⟨Ne.symm (S1.oe _ (.head _) x hx), Ne.symm (S1.oe _ (.tail _ (.head _)) x hx)⟩) ?_
  · intro p hp
    rcases List.mem_append.mp hp with hp | hp
    · exact ⟨R.oo p hp _ hdin, R.oo p hp _ htin⟩
    · rcases List.mem_cons.mp hp with rfl | hp
      · exact ⟨Ne.symm (R.slo _ hdin), Ne.symm (R.slo _ htin)⟩
      · exact h3 p hp
  · intro h' tk' own' nx' F' N' S' hf hoo
    obtain ⟨n2, S2, hn2⟩ := S'.swap (other2 := own ++ (sl, listOf sv.toArray sn) :: (own' ++ o1)) (fun p hp => by
      rcases List.mem_append.mp hp with hp | hp
      · exact List.mem_append.mpr (.inr (List.mem_append.mpr (.inl hp)))
      · rcases List.mem_cons.mp hp with rfl | hp
        · exact List.mem_append.mpr (.inr (List.mem_append.mpr (.inr (.head _))))
        · rcases List.mem_append.mp hp with hp | hp
          · exact List.mem_append.mpr (.inl hp)
          · exact List.mem_append.mpr (.inr (List.mem_append.mpr (.inr (.tail _ hp)))))
    refine hq h' tk' (own' ++ o1) n2 F' (fun p hp => N' p (hn2 p hp)) ⟨S2, R.tab, ?_, ?_, R.slw, ?_, ?_, frozen_mono (fun p hp => List.mem_append.mpr (.inl hp)) hf⟩
    · have key : ∀ {vs r}, TxtsAt o2 vs r → TxtsAt (own' ++ o1) vs r := by
        intro vs r tt
        induction tt with
        | nil => exact .nil
        | cons x _ ih =>
          obtain ⟨a, us, n, e1, e2, e3⟩ := x
          refine .cons ⟨a, us, n, e1, List.mem_append.mpr (.inr ?_), e3⟩ ih
          have z : a ≠ d ∧ a ≠ 100 := by
            have q0 := (N _ (R.o2in e2)).1
            refine ⟨?_, ?_⟩
            · rintro rfl
              have q1 := (N _ (R.o2in hdin)).1
              dsimp only at q0 q1
              rw [q0] at q1
              have := congrArg (fun o => o.map Obj.cls) q1
              simp [emptyDict, W.listOf] at this
            · rintro rfl
              have q1 := (N _ (R.o2in htin)).1
              dsimp only at q0 q1
              rw [q0] at q1
              have := congrArg (fun o => o.map Obj.cls) q1
              simp [W.listOf] at this
          rcases List.mem_cons.mp ((h1 _).mp e2) with e | e
          · exact absurd (congrArg Prod.fst e) z.1
          · rcases List.mem_cons.mp e with e | e
            · exact absurd (congrArg Prod.fst e) z.2
            · exact e
      exact key R.seen
    · intro p hp
      rcases List.mem_append.mp hp with hp | hp
      · exact Ne.symm (hoo p hp _ (List.mem_append.mpr (.inr (.head _))))
      · exact R.slo p (hsub p hp)
    · intro p hp q hq'
      rcases List.mem_append.mp hq' with hq' | hq'
      · exact hoo q hq' _ (List.mem_append.mpr (.inl hp))
      · exact R.oo p hp q (hsub q hq')
    · intro p hp
      refine List.mem_append.mpr (.inr ?_)
      have z := hrest p hp
      rcases List.mem_cons.mp ((h1 _).mp (R.rest p hp)) with e | e
      · exact absurd (congrArg Prod.fst e) z.1
      · rcases List.mem_cons.mp e with e | e
        · exact absurd (congrArg Prod.fst e) z.2
        · exact e
end
section
open PySem PySem.W PyProof.Rows PySem.Calls
set_option Elab.async false
set_option maxRecDepth 100000
set_option maxHeartbeats 8000000
def namesL : List Str := [Str.ofString "a", Str.ofString "", Str.ofString "b"]
def valsL : List Str := [Str.ofString "0", Str.ofString "="]
def blanksL : List Str := [Str.ofString "", Str.ofString " ", Str.ofString "\t", Str.ofString " \t "]
def textOf (b1 n b2 b3 v b4 : Str) : Str := b1 ++ n ++ b2 ++ Str.ofString "=" ++ b3 ++ v ++ b4
def txOk (b1 n b2 b3 v b4 : Str) : Bool := match Txt.splitMax (textOf b1 n b2 b3 v b4) (Str.ofString "=") 1 with
  | [p, q] => decide (Txt.strip p = n) && decide (Txt.strip q = v) && Nat.ble p.length 10 && Nat.ble q.length 10
  | _ => false
def txRow (b1 n : Str) : Bool := blanksL.all fun b2 => blanksL.all fun b3 => valsL.all fun v => blanksL.all fun b4 => txOk b1 n b2 b3 v b4
theorem tx00 : txRow (Str.ofString "") (Str.ofString "a") = true := by decide +kernel
theorem tx01 : txRow (Str.ofString "") (Str.ofString "") = true := by decide +kernel
theorem tx02 : txRow (Str.ofString "") (Str.ofString "b") = true := by decide +kernel
theorem tx10 : txRow (Str.ofString " ") (Str.ofString "a") = true := by decide +kernel
theorem tx11 : txRow (Str.ofString " ") (Str.ofString "") = true := by decide +kernel
theorem tx12 : txRow (Str.ofString " ") (Str.ofString "b") = true := by decide +kernel
theorem tx20 : txRow (Str.ofString "\t") (Str.ofString "a") = true := by decide +kernel
theorem tx21 : txRow (Str.ofString "\t") (Str.ofString "") = true := by decide +kernel
theorem tx22 : txRow (Str.ofString "\t") (Str.ofString "b") = true := by decide +kernel
theorem tx30 : txRow (Str.ofString " \t ") (Str.ofString "a") = true := by decide +kernel
theorem tx31 : txRow (Str.ofString " \t ") (Str.ofString "") = true := by decide +kernel
theorem tx32 : txRow (Str.ofString " \t ") (Str.ofString "b") = true := by decide +kernel
theorem txAll : (blanksL.all fun b1 => namesL.all fun n => blanksL.all fun b2 => blanksL.all fun b3 => valsL.all fun v => blanksL.all fun b4 => txOk b1 n b2 b3 v b4) = true := by
  show (blanksL.all fun b1 => namesL.all fun n => txRow b1 n) = true
  simp only [blanksL, namesL, List.all_cons, List.all_nil, tx00, tx01, tx02, tx10, tx11, tx12, tx20, tx21, tx22, tx30, tx31, tx32, Bool.and_true]
theorem tx_ok {b1 n b2 b3 v b4 : Str} (h1 : b1 ∈ blanksL) (h2 : n ∈ namesL) (h3 : b2 ∈ blanksL) (h4 : b3 ∈ blanksL) (h5 : v ∈ valsL) (h6 : b4 ∈ blanksL) :
    ∃ p q, Txt.splitMax (b1 ++ n ++ b2 ++ Str.ofString "=" ++ b3 ++ v ++ b4) (Str.ofString "=") 1 = [p, q] ∧ Txt.strip p = n ∧ Txt.strip q = v ∧ p.length ≤ 10 ∧ q.length ≤ 10 := by
  have a := List.all_eq_true.mp (List.all_eq_true.mp (List.all_eq_true.mp (List.all_eq_true.mp (List.all_eq_true.mp (List.all_eq_true.mp txAll b1 h1) n h2) b2 h3) b3 h4) v h5) b4 h6
  unfold txOk textOf at a
  split at a
  · rename_i p q e
    simp only [Bool.and_eq_true, decide_eq_true_eq] at a
    obtain ⟨⟨⟨a1, a2⟩, a3⟩, a4⟩ := a
    exact ⟨p, q, e, a1, a2, Nat.le_of_ble_eq_true a3, Nat.le_of_ble_eq_true a4⟩
  · cases a
theorem two_of {α β : Type} {l : List (α × β)} {a b : α} (e : l.map (·.1) = [a, b]) : ∃ t u, l = [(a, t), (b, u)] := by
  cases l with
  | nil => cases e
  | cons x l => cases l with
    | nil => cases (List.cons.inj e).2
    | cons y l => cases l with
      | nil => obtain ⟨x, t⟩ := x; obtain ⟨y, u⟩ := y; simp only [List.map_cons, List.map_nil, List.cons.injEq, and_true] at e; obtain ⟨rfl, rfl⟩ := e; exact ⟨t, u, rfl⟩
      | cons z l => cases (List.cons.inj (List.cons.inj e).2).2
section
variable {prog : Program} {w : World} {A : Around} {E : Value → Shared → Prop} {hp : Heap} {gs : Array GenState} {dr : Drawn} {tk : Nat} {os : OsState} {h₀ : Heap} {L : Addr} {m : Str → Option Value} {news : List (Addr × Obj)} {Q : Value → Shared → Prop} {t u k : Tok}
theorem read_split {b1 n b2 b3 v b4 : Str} (hF : Fr h₀ L hp m) (hN : News h₀ L hp news) (h1 : b1 ∈ blanksL) (h2 : n ∈ namesL) (h3 : b2 ∈ blanksL) (h4 : b3 ∈ blanksL) (h5 : v ∈ valsL) (h6 : b4 ∈ blanksL)
    (hs : (b1 ++ n ++ b2 ++ Str.ofString "=" ++ b3 ++ v ++ b4).length ≤ 1000)
    (h : ∀ D p q tp tq h' tk', Txt.strip p = n → Txt.strip q = v → p.length ≤ 10 → q.length ≤ 10 → Fr h₀ L h' m → News h₀ L h' ((D, listOf #[.str p tp, .str q tq] 0) :: news) → (∀ p ∈ news, p.1 < D) → Q (.ref D) ⟨h', gs, dr, tk', os⟩) :
    wpAny (model prog w) A (call (.builtin "str.split") [.str (b1 ++ n ++ b2 ++ Str.ofString "=" ++ b3 ++ v ++ b4) t, .str (Str.ofString "=") u, .int 1 k]) Q E ⟨hp, gs, dr, tk, os⟩ := by
  obtain ⟨p, q, e, a1, a2, a3, a4⟩ := tx_ok h1 h2 h3 h4 h5 h6
  refine splitN2A hF hN (by decide +kernel) (by decide +kernel) (fun l h' tk' e1 _ _ _ F N => ?_) (by unfold sizeLine; omega)
  rw [e] at e1
  obtain ⟨tp, tq, rfl⟩ := two_of e1
  exact h _ p q tp tq h' tk' a1 a2 a3 a4 F N fun p hp => Heap.lt_size (hN p hp).1
end
end
section
open PySem PySem.W PyProof.Rows PySem.W.X PySem.Calls
set_option Elab.async false
set_option maxRecDepth 100000
set_option maxHeartbeats 8000000
section
variable {w : World} {A : Around} {hp : Heap} {gs : Array GenState} {dr : Drawn} {tk : Nat} {os : OsState} {Q E : Value → Shared → Prop} {h₀ : Heap} {L : Addr} {m : Str → Option Value} {news : List (Addr × Obj)}
theorem map_newK (hh : A.handled = none) (hdp : A.depth ≤ 800) (hun : A.units ≤ 8000) (F : Fr h₀ L hp m) (N : News h₀ L hp news) (X : (hd.heap_1 w.params).In h₀) {l : Addr} {its : Array Value} {n : Nat} (hl : (l, listOf its n) ∈ news)
    (h : ∀ I T LI h' tk', Fr h₀ L h' m → News h₀ L h' ((I, mapObj T (.builtin "str.strip")) :: (T, tup1 (.ref LI)) :: (LI, ({ cls := .type "list_iterator", data := .fields #[.ref l, .int 0 0] } : Obj)) :: news) → I ≠ LI → T ≠ LI → l ≠ LI → (∀ p ∈ news, p.1 ≠ LI) → Q (.ref I) ⟨h', gs, dr, tk', os⟩) :
    wpAny (model PySem.Challenge.rw_in0186_01.row.prog w) A (call (.type "map") [.builtin "str.strip", .ref l]) Q E ⟨hp, gs, dr, tk, os⟩ := by
  refine under0 hh hdp hun (x_map_new (X.keeps F.keep) (N _ hl).1 ⟨fun I T LI h' tk' D => ?_⟩)
  have o := D.ord
  simp only [List.map_cons, List.map_nil, List.pairwise_cons, List.mem_cons, List.not_mem_nil, or_false] at o
  have off := mem_off D N _ (.tail _ (.tail _ (.head _)))
  refine h I T LI h' tk' (keep_fr (mem_keep D) F) (mem_news D F N) (Nat.ne_of_gt (o.1 LI (.inr rfl))) (Nat.ne_of_gt (o.2.1 LI rfl)) (off _ hl) off
theorem tuple_newK (hh : A.handled = none) (hdp : A.depth ≤ 800) (hun : A.units ≤ 8000) (F : Fr h₀ L hp m) (N : News h₀ L hp news) (X : (hd.heap_1 w.params).In h₀) {l : Addr} {a b : Str} {ta tb : Tok} (hl : (l, ({ cls := .type "tuple", data := .seq #[.str a ta, .str b tb] } : Obj)) ∈ news)
    (h : ∀ r d h' tk', Fr h₀ L h' m → News h₀ L h' ((r, ({ cls := .ref 203, dict := some d, data := .seq #[.str a ta, .str b tb] } : Obj)) :: (d, emptyDict) :: news) → (∀ p ∈ news, p.1 ≠ r ∧ p.1 ≠ d) → Q (.ref r) ⟨h', gs, dr, tk', os⟩) :
    wpAny (model PySem.Challenge.rw_in0186_01.row.prog w) A (call (.builtin "tuple.__new__") [.ref 203, .ref l]) Q E ⟨hp, gs, dr, tk, os⟩ := by
  refine under0 hh hdp hun (x_tuple_new (X.keeps F.keep) (N _ hl).1 ⟨fun r d nw h' tk' D => ?_⟩)
  refine h r d h' tk' (keep_fr (mem_keep D) F) (fun p hp => ?_) (fun p hp => ⟨mem_off D N _ (.head _) p hp, mem_off D N _ (.tail _ (.head _)) p hp⟩)
  rcases List.mem_cons.mp hp with rfl | hp
  · exact mem_news D F N _ (.head _)
  rcases List.mem_cons.mp hp with rfl | hp
  · exact mem_news D F N _ (.tail _ (.head _))
  · exact keep_news (mem_keep D) N p hp
theorem two_list {α : Type} {l : List α} (h : l.length = 2) : ∃ x y, l = [x, y] := by
  cases l with
  | nil => cases h
  | cons x r => cases r with
    | nil => cases h
    | cons y r => cases r with
      | nil => exact ⟨x, y, rfl⟩
      | cons _ _ => cases h
theorem star_mapK {I T LI l : Addr} {p q : Str} {tp tq : Tok} {k : Nat} {Q : List Value → Shared → Prop} (hh : A.handled = none) (F : Fr h₀ L hp m)
    (N : News h₀ L hp ((I, mapObj T (.builtin "str.strip")) :: (T, tup1 (.ref LI)) :: (LI, ({ cls := .type "list_iterator", data := .fields #[.ref l, .int 0 0] } : Obj)) :: news))
    (h1 : I ≠ LI) (h2 : T ≠ LI) (h3 : l ≠ LI) (h4 : ∀ p ∈ news, p.1 ≠ LI) (hl : (l, listOf #[.str p tp, .str q tq] k) ∈ news) (hpl : p.length ≤ 10) (hql : q.length ≤ 10) {n v : Str} (en : Txt.strip p = n) (ev : Txt.strip q = v)
    (h : ∀ t1 t2 h' tk', Fr h₀ L h' m → News h₀ L h' news → Q [.str n t1, .str v t2] ⟨h', gs, dr, tk', os⟩) :
    StarOf (model PySem.Challenge.rw_in0186_01.row.prog w) A E (.ref I) Q ⟨hp, gs, dr, tk, os⟩ := by
  subst en ev
  have a := (N _ (.head _)).1
  have b := (N _ (.tail _ (.head _))).1
  have c := (N _ (.tail _ (.tail _ (.head _)))).1
  have d := (N _ (.tail _ (.tail _ (.tail _ hl)))).1
  have LL : L ≠ LI := (N _ (.tail _ (.tail _ (.head _)))).2.1.symm
  have g0 := (N _ (.tail _ (.tail _ (.head _)))).2.2
  refine star_map (T := T) (LI := LI) (l := l) (vs := [.str p tp, .str q tq]) (ws := [p, q]) hh ⟨a, b, ⟨_, c, rfl, rfl⟩, ⟨_, d, rfl, k, rfl⟩⟩ (.cons _ _ (.cons _ _ .nil)) (fun x hx => ?_) h1 h2 h3 (by show 2 ≤ sizeLine; decide) (fun h' tk' acc kp hn hi => ?_)
  · simp only [List.mem_cons, List.not_mem_nil, or_false] at hx
    have : sizeLine = 16777216 := rfl
    rcases hx with rfl | rfl <;> omega
  · obtain ⟨t1, e1⟩ := hi 0 p rfl
    obtain ⟨t2, e2⟩ := hi 1 q rfl
    obtain ⟨x, y, rfl⟩ := two_list hn
    have e1' : x = .str (Txt.strip p) t1 := by simpa using e1
    have e2' : y = .str (Txt.strip q) t2 := by simpa using e2
    subst e1' e2'
    refine h t1 t2 h' tk' ?_ fun r hr => ?_
    · obtain ⟨oL, es, ep, hL, r⟩ := F.ns
      exact ⟨⟨oL, es, ep, kp _ _ LL hL, r⟩, fun b o e => kp _ _ (fun z => by rw [z, g0] at e; cases e) (F.keep b o e), F.above⟩
    · have z := N r (.tail _ (.tail _ (.tail _ hr)))
      exact ⟨kp _ _ (h4 r hr) z.1, z.2⟩
end
end
section
open PySem PySem.W PyProof.Rows PySem.Calls
set_option Elab.async false
set_option maxRecDepth 100000
set_option maxHeartbeats 8000000
set_option pp.deepTerms false
set_option pp.maxSteps 3000
section
variable {prog : Program} {w : World} {A : Around} {E : Value → Shared → Prop} {s : Shared} {K : Frag} {R : Result → Shared → Prop} {T q : String} {h₀ : Heap} {L : Addr} {m : Str → Option Value}
theorem type_attr {expr : Bool} {Q : Value → Shared → Prop} {name : Str} {v : Value} (F : Fr h₀ L s.heap m) (X₀ : K.In h₀) (ht : kitMeta T = true) (hs : Manifest.isStub T = false)
    (e : findCls K (.type T) (.type "type") name = some (.val v)) (hv : handedIn v = true)
    (h : Q v { s with toks := s.toks + 1 }) : wpAny (model prog w) A (getAttr (.type T) name expr) Q E s := by
  have X := X₀.keeps F.keep
  have hstub : opaqueClassAbove (.type T) = pure none := by unfold opaqueClassAbove; dsimp only; rw [hs]; rfl
  have L0 : Looks (model prog w) s.heap (typeOf (.type T)) (.type "type") := Looks.of_pure (kitMeta_of ht)
  have LO : Looks (model prog w) s.heap (opaqueClassAbove (.type T)) none := Looks.of_pure hstub
  have hg : findIn K (.type "type") "__getattribute__" = some (some (.builtin "type.__getattribute__")) := type_tga
  refine cls_open X LO L0 hg (looks_hook X (r := none) (by rfl)) (by show subIn K _ _ = _; rfl) e ?_
  exact wpAny_pure (handed_on hv h)
end
end
section
open PySem PySem.W PyProof.Rows PySem.Calls
set_option Elab.async false
set_option maxRecDepth 100000
set_option maxHeartbeats 8000000
set_option pp.deepTerms false
set_option pp.maxSteps 3000
def NewBack (K : Frag) (n v : Str) (t1 t2 : Tok) (Q E : Value → Shared → Prop) (r : Result) (s' : Shared) : Prop := match r with
  | .ok (.ret (.ref x)) => ∃ d, s'.heap.get? x = some (pairObj n v t1 t2 d) ∧ K.In s'.heap ∧ Q (.ref x) s'
  | .ok _ => False
  | .error e => E e s'
section
variable {w : World} {A : Around} {h : Heap} {g : Array GenState} {d : Drawn} {t : Nat} {os : OsState} {Q E : Value → Shared → Prop} {n v : Str} {t1 t2 : Tok}
theorem pair_call (X : (hd.heap_1 w.params).In h) (hh : A.handled = none) (hdp : A.depth ≤ 700) (hun : A.units ≤ 7000)
    (hN : codeAny (model PySem.Challenge.rw_in0186_01.row.prog w) (A.under (.builtin "type.__call__" ⟨[.ref 203, .str n t1, .str v t2], []⟩)) (.call (.ref 130) ⟨[.ref 203, .str n t1, .str v t2], []⟩) (NewBack (hd.heap_1 w.params) n v t1 t2 Q E) ⟨h, g, d, t + 1, os⟩) :
    wpAny (model PySem.Challenge.rw_in0186_01.row.prog w) A (call (.ref 203) [.str n t1, .str v t2]) Q E ⟨h, g, d, t, os⟩ := by
  revert X; k_fill; intro X
  have call : Looks (model PySem.Challenge.rw_in0186_01.row.prog w) h (specialOf (.ref 203) "__call__") (some (.builtin "type.__call__")) := looks_specialIn X (by k_is)
  have typ : Looks (model PySem.Challenge.rw_in0186_01.row.prog w) h (isInstance (.ref 203) (.type "type")) true := looks_instIn X (by k_is)
  refine wpAny_call (codeAny_of_tree ?_)
  show wpAny _ _ (callAny (.ref 203) _) _ _ _
  refine nd_load (X 203 _ (by k_is)) ?_
  show wpAny _ _ (callAny.viaDunder (.ref 203) _) _ _ _
  unfold callAny.viaDunder
  refine wpAny_bind (call.at ?_)
  dsimp only
  rw [tc_bind]
  refine wpAny_bind (wpAny_pure (wpAny_bind (wpAny_pure ?_)))
  refine wpAny_pure (a := Fin.again (.call (.builtin "type.__call__") ⟨[.ref 203, .str n t1, .str v t2], []⟩)) (And.intro rfl ?_)
  refine codeAny_call_builtin_at (Code.quiet_builtin _ (by decide +kernel)) entry_typeCall (check_slot tc_kind tc_split typ (tc_args _ _ _) ?_)
  unfold Builtin.«type.__call__»
  obtain ⟨cd, hc⟩ : ∃ cd, clsIn (hd.heap_1 w.params) 203 = some cd := ⟨_, rfl⟩
  have hmro : cd.mro = [.ref 203, .ref 180, .type "tuple", .type "object"] := by
    have : some cd = clsIn (hd.heap_1 w.params) 203 := hc.symm
    have e : (clsIn (hd.heap_1 w.params) 203).map (·.mro) = some [.ref 203, .ref 180, .type "tuple", .type "object"] := rfl
    rw [← this] at e
    exact Option.some.inj e
  have hm : Looks (model PySem.Challenge.rw_in0186_01.row.prog w) h (mroOf (.ref 203)) cd.mro := (looks_clsIn X hc).andThen .now
  rw [hmro] at hm
  have made : Looks (model PySem.Challenge.rw_in0186_01.row.prog w) h (Bind.madeBy (.ref 203)) none := by
    intro A Q E s k q
    unfold Bind.madeBy
    refine wpAny_bind (hm A _ E s k ?_)
    rw [List.forIn_cons]
    refine wpAny_bind (wpAny_bind (wpAny_bind (wpAny_bind (wpAny_loadPart (k _ _ (X 203 _ rfl)) (wpAny_pure ?_)))))
    dsimp only
    exact wpAny_pure (wpAny_pure (wpAny_pure q))
  dsimp only
  rw [if_neg (by decide)]
  refine wpAny_bind (hm.here ?_)
  rw [if_neg (by decide)]
  refine wpAny_bind (made.here ?_)
  dsimp only
  refine wpAny_bind (cls_bind (mc := .type "type") X (by k_is) (by k_is) (wpAny_call (sm_get (s := ⟨h, g, d, t + 1, os⟩) X (f := .ref 130) (rest := []) (by k_is) (handed_on rfl ?_))))
  refine wpAny_bind (wpAny_holding (wpAny_call ?_))
  refine codeAny_mono hN fun r s' z => ?_
  obtain ⟨h', g', d', t', os'⟩ := s'
  rcases r with e | f
  · exact z
  cases f with
  | next => exact z.elim
  | brk => exact z.elim
  | cont => exact z.elim
  | ret vv =>
    cases vv <;> try exact z.elim
    rename_i x
    obtain ⟨dx, hx, X', z⟩ := z
    dsimp only at hx X'
    have t1' : Looks (model PySem.Challenge.rw_in0186_01.row.prog w) h' (typeOf (.ref x)) (.ref 203) := (Looks.ld hx).andThen .now
    have s1' : Looks (model PySem.Challenge.rw_in0186_01.row.prog w) h' (isSubtype (.ref 203) (.ref 203)) true := looks_mroIn X' (by k_is)
    have i1' : Looks (model PySem.Challenge.rw_in0186_01.row.prog w) h' (typeLookup (.ref 203) "__init__") (some (.builtin "object.__init__")) := looks_findIn X' (by k_is)
    have b1' : Looks (model PySem.Challenge.rw_in0186_01.row.prog w) h' (bindSpecial (.builtin "object.__init__") (.ref x)) (.builtin "object.__init__", [.ref x]) := Looks.of_pure (oi_bind _)
    unfold isInstance callSpecial? specialOf
    dsimp only
    repeat lk
    refine under0 (A := A.under _) hh ?_ ?_ (x_object_init X' hx ⟨?_⟩)
    · rw [depth_under_make]; omega
    · rw [units_under_make]; omega
    · refine wpAny_pure ?_
      repeat lk
      exact z
end
end
section
open PySem PySem.W PyProof.Rows PySem.Calls
set_option Elab.async false
set_option maxRecDepth 100000
set_option maxHeartbeats 8000000
set_option pp.deepTerms false
set_option pp.maxSteps 3000
def Sm (k : Nat) (x : Str) : Prop := x.length ≤ k
theorem add_sm {prog : Program} {w : World} {A : Around} {E : Value → Shared → Prop} {hp : Heap} {gs : Array GenState} {dr : Drawn} {tk0 : Nat} {os : OsState} {x y : Str} {t u : Tok} {i j : Nat} {Q : Value → Shared → Prop} (hx : Sm i x) (hy : Sm j y) (hij : i + j ≤ 1000)
    (h : ∀ t' tk, Sm (i + j) (x ++ y) → Q (.str (x ++ y) t') ⟨hp, gs, dr, tk, os⟩) : wpAny (model prog w) A (binaryOp .Add (.str x t) (.str y u)) Q E ⟨hp, gs, dr, tk0, os⟩ := by
  unfold Sm at *
  refine add_str (fun t' tk => h t' tk ?_) ?_
  · rw [Str.length_append]; omega
  · unfold sizeLine; omega
theorem News.isL {h₀ h : Heap} {L l : Addr} {news : List (Addr × Obj)} {vs : List Value} {n : Nat} (N : News h₀ L h news) (hm : (l, listOf vs.toArray n) ∈ news) : h.IsList l vs.toArray := ⟨_, (N _ hm).1, rfl, n, rfl⟩
theorem item_menu {prog : Program} {w : World} {A : Around} {E : Value → Shared → Prop} {s : Shared} {value slice : Expr} {l : Addr} {vs : List Value} {ws : List Str} {i : Int} {u : Tok} {Q : Value → Shared → Prop}
    (hl : s.heap.IsList l vs.toArray) (hw : StrsAre vs ws) (h0 : 0 ≤ i) (h1 : i < (ws.length : Int)) (hfit : i < 2 ^ 63) (k : Nat) (hk : ∀ x ∈ ws, x.length ≤ k) (h : ∀ x t', x ∈ ws → Sm k x → Q (.str x t') s)
    (hs : subscripted slice false (.ref l) (.int i u) = operate [.ref l, .int i u] (getItem (.ref l) (.int i u)) := by with_unfolding_all rfl) :
    wpAny (model prog w) A (subscriptTail value slice (.ref l) (.int i u)) Q E s := by
  refine KTb.item_list hl hw h0 h1 hfit (fun t' hlt => ?_) hs
  have hm : ws.getD i.toNat PySem.Str.empty ∈ ws := by
    rw [List.getD_eq_getElem?_getD, List.getElem?_eq_getElem hlt]
    exact List.getElem_mem hlt
  exact h _ t' hm (hk _ hm)
theorem fm_lo (a : Int) {b : Int} (hb : 0 < b) : 0 ≤ a.fmod b := Int.fmod_nonneg_of_pos a hb
theorem fm_hi (a : Int) {b : Int} (hb : 0 < b) : a.fmod b < b := Int.fmod_lt_of_pos a hb
theorem sm_of {ws : List Str} {x : Str} {k : Nat} (hx : x ∈ ws) (hk : ∀ x ∈ ws, x.length ≤ k) : Sm k x := hk x hx
local macro_rules | `(tactic| walk_at "subscriptTail") => `(tactic| (k_here; (with_reducible show wpAny _ _ (subscriptTail _ _ (Value.ref _) (Value.int _ _)) _ _ _); k_dflt (refine' item_menu ?l ?w ?a ?b ?c 3 ?k ?_; (case l => exact News.isL (by k_asm) (by k_mem)); (case w => repeat constructor); (case a => exact fm_lo _ (by decide)); (case b => exact fm_hi _ (by decide)); (case c => exact Int.lt_trans (fm_hi _ (by decide)) (by decide)); (case k => decide +kernel)); intro xb tb hxb hsb))
local macro_rules | `(tactic| walk_at "binaryOp Add str str") => `(tactic| (k_here; (with_reducible show wpAny _ _ (binaryOp Operator.Add (Value.str _ _) (Value.str _ _)) _ _ _); (refine' add_sm ?x ?y ?ij ?_; (case x => assumption); (case y => first | assumption | exact (show Sm 1 _ from by unfold Sm; decide +kernel)); (case ij => decide)); intro tb tkb hsb))
local macro_rules | `(tactic| walk_at "getAttr") => `(tactic| (k_here; (with_reducible show wpAny _ _ (getAttr (Value.type _) _ _) _ _ _); k_dflt (refine' type_attr ?F ?X ?t ?s ?e ?v ?_; (case F => k_asm); (case X => k_asm); (case t => decide +kernel); (case s => decide +kernel); (case e => k_is); (case v => k_handed); k_whole)))
local macro_rules | `(tactic| walk_at "call builtin:str.split") => `(tactic| (k_here; (refine' read_split ?F ?N ?a ?b ?c ?d ?e ?f ?s ?_; (case F => k_asm); (case N => k_asm); (case a => assumption); (case b => assumption); (case c => assumption); (case d => assumption); (case e => assumption); (case f => assumption); (case s => exact Nat.le_trans (show Sm _ _ by assumption) (by decide))); intro D' p' q' tp' tq' h' tk' e1' e2' e3' e4' F' N' l1'; (try k_sweep)))
local macro_rules | `(tactic| walk_at "call type:map") => `(tactic| (k_here; (refine' map_newK ?A ?d ?u ?F ?N ?X ?l ?_; (case A => rfl); (case d => ktr_room); (case u => ktr_units); (case F => k_asm); (case N => k_asm); (case X => k_asm); (case l => k_mem)); intro I' T' LI' h' tk' F' N' n1' n2' n3' n4'; (try k_sweep)))
theorem newBack_of {K : Frag} {n v : Str} {t1 t2 : Tok} {Q E : Value → Shared → Prop} {x d : Addr} {h₀ : Heap} {L : Addr} {news : List (Addr × Obj)} {h : Heap} {gs : Array GenState} {dr : Drawn} {tk : Nat} {os : OsState} (N : News h₀ L h news) (hm : (x, ({ cls := .ref 203, dict := some d, data := .seq #[.str n t1, .str v t2] } : Obj)) ∈ news) (X : K.In h) (hq : Q (.ref x) ⟨h, gs, dr, tk, os⟩) :
    NewBack K n v t1 t2 Q E (.ok (.ret (.ref x))) ⟨h, gs, dr, tk, os⟩ := ⟨d, (N _ hm).1, X, hq⟩
local macro_rules | `(tactic| walk_at "StarOf ref") => `(tactic| (k_here; (refine' star_mapK ?A ?F ?N ?a ?b ?c ?d ?l ?e ?f ?g ?h ?_; (case A => rfl); (case F => k_asm); (case N => k_asm); (case a => assumption); (case b => assumption); (case c => assumption); (case d => assumption); (case l => k_mem); (case e => assumption); (case f => assumption); (case g => assumption); (case h => assumption)); intro ts' tu' h' tk' F' N'; (try k_sweep); (try dsimp only [List.nil_append, List.cons_append])))
local macro_rules | `(tactic| walk_at "call ref") => `(tactic| (k_here; (with_reducible show wpAny _ _ (call (Value.ref 203) _) _ _ _); (refine' pair_call ?X ?A ?d ?u ?_; (case X => k_in); (case A => rfl); (case d => ktr_room); (case u => ktr_units)); k_dflt k_enter))
local macro_rules | `(tactic| walk_at "NewBack") => `(tactic| (k_here; (refine' newBack_of ?N ?m ?X ?_; (case N => k_asm); (case m => k_mem); (case X => k_in)); try dsimp only))
local macro_rules | `(tactic| walk_at "getMethod") => `(tactic| (k_here; (with_reducible show wpAny _ _ (getMethod (Value.type _) _ _) _ _ _); k_dflt (refine' method_type ?F ?X ?m ?s ?e ?h ?_; (case F => k_asm); (case X => k_asm); (case m => exact kitMeta_of (by decide +kernel)); (case s => decide +kernel); (case e => k_is); (case h => k_handed))))
local macro_rules | `(tactic| walk_at "call builtin:tuple.__new__") => `(tactic| (k_here; (refine' tuple_newK ?A ?d ?u ?F ?N ?X ?l ?_; (case A => rfl); (case d => ktr_room); (case u => ktr_units); (case F => k_asm); (case N => k_asm); (case X => k_asm); (case l => k_mem)); intro r' dx' h' tk' F' N' n1'; (try k_sweep)))
theorem read_spec (w : World) (news : List (Addr × Obj)) (n v : Str) (p : Int) (t1 t2 t3 : Tok) (hn : n ∈ namesL) (hv : v ∈ valsL) :
    Tell w 227 [.str n t1, .str v t2, .int p t3] 20 news (fun r news' => ∃ x tn tv d, r = .ref x ∧ news' = (x, pairObj n v tn tv d) :: (d, emptyDict) :: news ∧ ∀ q ∈ news, q.1 ≠ x ∧ q.1 ≠ d) := by
  unfold Tell
  k_fill
  intro mean mg mb dp un gd cn cs a ccd cl outer A₀ base h₀ L m s Q E B F X N T hk hdp hun hret
  have hsn : Sm 1 n := sm_of hn (by decide +kernel)
  have hsv : Sm 1 v := sm_of hv (by decide +kernel)
  refine wpAny_call ?_
  k_dflt (refine' code_def (binds := [(Str.ofString "name", .str n t1), (Str.ofString "value", .str v t2), (Str.ofString "pick", .int p t3)]) ?k1 ?k2 ?k3 ?k4 ?k5 ?kA ?kF ?kK ?k6 ?k7 ?k8 ?k9 ?kB ?_ ?c2 ?c3 ?c4 ?c5; (case kA => exact rfl); (case kF => exact rfl); (case kK => assumption); (case k1 => k_asm); (case k2 => k_asm); (case k3 => k_asm); (case k4 => k_asm); (case k5 => k_asm); (case k6 => k_is); (case k7 => k_is); (case k8 => ktr_room); (case k9 => exact BindsTo.of_eq rfl); (case c5 => decide); (case kB => exact locs rfl); (case c2 => exact rfl); (case c3 => exact rfl); (case c4 => exact rfl); k_whole; intro g' L' h' FG' F' N' B' X' T'; (try dsimp only); (try k_fold))
  repeat' (first | (k_unfold; (try dsimp only)) | (k_end; wrow_close) | (dsimp only; walk1) | walk1 | (leave1; walk_say "STEP leave1"; try dsimp only) | fail "no step")
  rename News h₀ L _ _ => N9
  rename (∀ p ∈ _, Prod.fst p ≠ _ ∧ Prod.fst p ≠ _) => n9
  refine' hret _ ((_, pairObj n v _ _ _) :: (_, emptyDict) :: news) _ _ (by k_asm) (cb_drop N9 (List.forall_mem_cons.mpr ⟨.head _, List.forall_mem_cons.mpr ⟨.tail _ (.head _), fun p hp => .tail _ (.tail _ (.tail _ (.tail _ (.tail _ (.tail _ hp)))))⟩⟩)) ?_
  exact ⟨_, _, _, _, rfl, rfl, fun q hq => n9 q (.tail _ (.tail _ (.tail _ (.tail _ hq))))⟩
end
section
open PySem PySem.W PyProof.Rows PySem.Calls
set_option Elab.async false
set_option maxRecDepth 100000
set_option maxHeartbeats 8000000
set_option pp.deepTerms false
set_option pp.maxSteps 3000
local macro_rules | `(tactic| walk_at "getMethod") => `(tactic| (k_here; (with_reducible show wpAny _ _ (getMethod (Value.type _) _ _) _ _ _); k_dflt (refine' method_type ?F ?X ?m ?s ?e ?h ?_; (case F => k_asm); (case X => k_asm); (case m => exact kitMeta_of (by decide +kernel)); (case s => decide +kernel); (case e => k_is); (case h => k_handed))))
local macro_rules | `(tactic| walk_at "call type:type") => `(tactic| (k_here; (with_reducible show wpAny _ _ (call (Value.type "type") [Value.ref _]) _ _ _); (refine' under0 ?A ?d ?u (x_type ?X ?l ⟨?_⟩); (case A => rfl); (case d => ktr_room); (case u => ktr_units); (case X => k_in); (case l => exact (News.get (by k_asm) (by k_mem))))))
local macro_rules | `(tactic| walk_at "call builtin:issubclass") => `(tactic| (k_here; (refine' under0 ?A ?d ?u (x_issub ?X ⟨?_⟩); (case A => rfl); (case d => ktr_room); (case u => ktr_units); (case X => k_in))))
local macro_rules | `(tactic| walk_at "call builtin:tuple.__getitem__") => `(tactic| (k_here; (first | (refine' tup_item0 ?X ?l ?s ?_; (case X => k_in); (case l => exact (News.get (by k_asm) (by k_mem))); (case s => k_dflt k_is)) | (refine' tup_item1 ?X ?l ?s ?_; (case X => k_in); (case l => exact (News.get (by k_asm) (by k_mem))); (case s => k_dflt k_is)))))
theorem pair_name (w : World) {mean : ExcName → Option Value} {mg mb : Str → Option Value} {dp un : Nat} {gd : Option (List Code)} {cn : Str} {cs : Scope} {a : Addr} {ccd : Value} {cl : List (Str × Addr)} {outer : List Env} {A₀ : Around} {base h₀ : Heap} {L : Addr} {m : Str → Option Value} {s : Shared} {news : List (Addr × Obj)}
    {Q E : Value → Shared → Prop} {x d : Addr} {n v : Str} {tn tv : Tok} {ex : Bool} (B : Below A₀ base outer h₀) (F : Fr h₀ L s.heap m) (X : (hd.heap_1 w.params).In h₀) (N : News h₀ L s.heap news) (T : Top topProg lo mean mg mb h₀) (hk : cs.kind = .function) (hdp : dp ≤ 700) (hun : un ≤ 7000)
    (hx : (x, pairObj n v tn tv d) ∈ news) (hd' : (d, emptyDict) ∈ news)
    (h : ∀ h' tk', Fr h₀ L h' m → News h₀ L h' news → Q (.str n tn) { s with heap := h', toks := tk' }) :
    wpAny (model PySem.Challenge.rw_in0186_01.row.prog w) (ktrTop dp un gd cn cs L a ccd cl outer) (getAttr (.ref x) (Str.ofString "name") ex) Q E s := by
  revert X
  k_fill
  intro X
  obtain ⟨hp, gs, dr, tk, os⟩ := s
  refine getattr_own (od := some emptyDict) ga_tuple (X.keeps F.keep) ⟨(N _ hx).1, rfl, rfl, (N _ hd').1⟩ (by k_is) (by k_is) (by k_is) (by simp) (findObj_data rfl (by k_is) (by k_is) (by k_is)) ?_
  show wpAny _ _ (holding [_] (call _ [_, .ref x, .ref 203]) >>= ret) _ _ _
  refine wpAny_bind (wpAny_holding (wpAny_call ?_))
  k_dflt (refine' code_def (binds := [(Str.ofString "self", .ref 172), (Str.ofString "obj", .ref x), (Str.ofString "objtype", .ref 203)]) ?k1 ?k2 ?k3 ?k4 ?k5 ?kA ?kF ?kK ?k6 ?k7 ?k8 ?k9 ?kB ?_ ?c2 ?c3 ?c4 ?c5; (case kA => exact rfl); (case kF => exact rfl); (case kK => first | assumption | exact rfl); (case k1 => k_asm); (case k2 => k_asm); (case k3 => k_asm); (case k4 => k_asm); (case k5 => k_asm); (case k6 => k_is); (case k7 => k_is); (case k8 => ktr_room); (case k9 => first | exact BindsTo.of_eq rfl | exact binds_K (by k_in) rfl (by k_is) rfl rfl rfl); (case c5 => decide); (case kB => exact locs rfl); (case c2 => exact rfl); (case c3 => exact rfl); (case c4 => exact rfl); k_whole; intro g' L' h' FG' F' N' B' X' T'; (try dsimp only); (try k_fold))
  repeat' (first | (k_unfold; (try dsimp only)) | (k_end; wrow_close) | (dsimp only; walk1) | walk1 | (leave1; walk_say "STEP leave1"; try dsimp only) | fail "no step")
  exact wpAny_pure (handed_on rfl (h _ _ (by k_asm) (by k_asm)))
theorem pair_value (w : World) {mean : ExcName → Option Value} {mg mb : Str → Option Value} {dp un : Nat} {gd : Option (List Code)} {cn : Str} {cs : Scope} {a : Addr} {ccd : Value} {cl : List (Str × Addr)} {outer : List Env} {A₀ : Around} {base h₀ : Heap} {L : Addr} {m : Str → Option Value} {s : Shared} {news : List (Addr × Obj)}
    {Q E : Value → Shared → Prop} {x d : Addr} {n v : Str} {tn tv : Tok} {ex : Bool} (B : Below A₀ base outer h₀) (F : Fr h₀ L s.heap m) (X : (hd.heap_1 w.params).In h₀) (N : News h₀ L s.heap news) (T : Top topProg lo mean mg mb h₀) (hk : cs.kind = .function) (hdp : dp ≤ 700) (hun : un ≤ 7000)
    (hx : (x, pairObj n v tn tv d) ∈ news) (hd' : (d, emptyDict) ∈ news)
    (h : ∀ h' tk', Fr h₀ L h' m → News h₀ L h' news → Q (.str v tv) { s with heap := h', toks := tk' }) :
    wpAny (model PySem.Challenge.rw_in0186_01.row.prog w) (ktrTop dp un gd cn cs L a ccd cl outer) (getAttr (.ref x) (Str.ofString "value") ex) Q E s := by
  revert X
  k_fill
  intro X
  obtain ⟨hp, gs, dr, tk, os⟩ := s
  refine getattr_own (od := some emptyDict) ga_tuple (X.keeps F.keep) ⟨(N _ hx).1, rfl, rfl, (N _ hd').1⟩ (by k_is) (by k_is) (by k_is) (by simp) (findObj_data rfl (by k_is) (by k_is) (by k_is)) ?_
  show wpAny _ _ (holding [_] (call _ [_, .ref x, .ref 203]) >>= ret) _ _ _
  refine wpAny_bind (wpAny_holding (wpAny_call ?_))
  k_dflt (refine' code_def (binds := [(Str.ofString "self", .ref 175), (Str.ofString "obj", .ref x), (Str.ofString "objtype", .ref 203)]) ?k1 ?k2 ?k3 ?k4 ?k5 ?kA ?kF ?kK ?k6 ?k7 ?k8 ?k9 ?kB ?_ ?c2 ?c3 ?c4 ?c5; (case kA => exact rfl); (case kF => exact rfl); (case kK => first | assumption | exact rfl); (case k1 => k_asm); (case k2 => k_asm); (case k3 => k_asm); (case k4 => k_asm); (case k5 => k_asm); (case k6 => k_is); (case k7 => k_is); (case k8 => ktr_room); (case k9 => first | exact BindsTo.of_eq rfl | exact binds_K (by k_in) rfl (by k_is) rfl rfl rfl); (case c5 => decide); (case kB => exact locs rfl); (case c2 => exact rfl); (case c3 => exact rfl); (case c4 => exact rfl); k_whole; intro g' L' h' FG' F' N' B' X' T'; (try dsimp only); (try k_fold))
  repeat' (first | (k_unfold; (try dsimp only)) | (k_end; wrow_close) | (dsimp only; walk1) | walk1 | (leave1; walk_say "STEP leave1"; try dsimp only) | fail "no step")
  exact wpAny_pure (handed_on rfl (h _ _ (by k_asm) (by k_asm)))
end
section
open PySem PySem.W PySem.Calls
open PyProof.Rows hiding wpAt wpAt_mono wpAt_bind wpAt_stack strKind
open PySem.W.X (Mem)
set_option Elab.async false
set_option maxRecDepth 100000
set_option maxHeartbeats 2000000
set_option pp.deepTerms false
set_option pp.maxSteps 3000
section
variable {prog : Program} {w : World} {A : Around} {E : Value → Shared → Prop} {s : Shared} {env : Env} {h₀ : Heap} {x : Str} {body : List Stmt} {Q : Flow → Shared → Prop}
theorem loop_range {r : Addr} {b₀ : Int} {t₀ u₀ v₀ : Tok} {n : Nat} {m₀ : Str → Option Value} {news : List (Addr × Obj)} (J : Nat → (Str → Option Value) → List (Addr × Obj) → Prop)
    (hh : A.handled = none) (hr : IsRange s.heap r 0 b₀ 1 t₀ u₀ v₀) (hsmall : Builtin.Range.small 0 b₀ 1 = true) (hsz : Builtin.Range.rangeSize 0 b₀ 1 = (n : Int)) (F : Fr h₀ env.locals s.heap m₀) (N : News h₀ env.locals s.heap news) (hj : J 0 m₀ news)
    (turn : ∀ i t m₁ nx h tk own, i < n → OwnOff own (nx.map (·.1)) → J i m₁ nx → Fr h₀ env.locals h (fun y => if y = x then some (.int (i : Int) t) else m₁ y) → News h₀ env.locals h (nx ++ own) →
      wpAny (model prog w) A (execs body env) (InvPostG h₀ env.locals (J (i + 1)) own { s with heap := h, toks := tk } Q) E { s with heap := h, toks := tk })
    (done : ∀ m₁ nx h tk, J n m₁ nx → Fr h₀ env.locals h m₁ → News h₀ env.locals h nx → Q .next { s with heap := h, toks := tk }) :
    wpAny (model prog w) A (pyIter (.ref r)) (fun it s₂ => LoopAtV prog w A h₀ env x body Q E it s₂) E s := by
  refine wpAny_pyIter_range hr hsmall ?_
  have W : Walks prog w A s.heap.objs.size [s.heap.objs.size] [s.heap.objs.size] n (fun i v => i < n ∧ ∃ t, v = .int (0 + i * 1) t)
      (fun i h => IsRangeIter h s.heap.objs.size (0 + (i : Nat) * 1) ((n : Int) - (i : Nat)) 1) := (Walks.range hh _ 0 1 n).bound
  refine kdr_loop J W (fun _ h => h) (fun _ h => h) ?_ ?_ ?_ ?_ (by show IsRangeIter _ _ _ _ _; rw [hsz]; simpa using Heap.get?_push_size _ rfl) (F.push _) (fun p hp => ⟨Heap.get?_push_of_some _ (N p hp).1, (N p hp).2⟩) hj ?_ ?_
  · intro i h hi b hb
    rw [List.mem_singleton.mp hb]
    exact ⟨_, hi⟩
  · intro hm
    exact absurd F.ns.lt ((List.mem_singleton.mp hm) ▸ Nat.lt_irrefl _)
  · intro b hb
    rw [List.mem_singleton.mp hb]
    exact next_is_new F
  · intro p hp hI
    exact absurd (Heap.lt_size (N p hp).1) ((List.mem_singleton.mp hI) ▸ Nat.lt_irrefl _)
  · rintro i v m₁ nx h tk own hi ⟨_, t, rfl⟩ hoff hJ F₁ N₁
    have e1 : (0 : Int) + (i : Int) * 1 = (i : Int) := by omega
    rw [e1] at F₁
    exact turn i t m₁ nx h tk own hi hoff hJ F₁ N₁
  · rintro m₁ nx h tk hJ F₁ N₁
    exact done m₁ nx h tk hJ F₁ N₁
end
theorem fr_pin {h₀ h : Heap} {L : Addr} {m : Str → Option Value} {x : Str} {v : Value} (F : Fr h₀ L h m) (e : m x = some v) : Fr h₀ L h (fun y => if y = x then some v else m y) := by
  have : (fun y => if y = x then some v else m y) = m := by
    funext y
    by_cases c : y = x
    · rw [if_pos c, c, e]
    · rw [if_neg c]
  rw [this]; exact F
theorem fr_pin2 {h₀ h : Heap} {L : Addr} {m : Str → Option Value} {k : Str} {vk : Value} {x : Str} {v : Value} (F : Fr h₀ L h (fun y => if y = k then some vk else m y)) (e : m x = some v) : Fr h₀ L h (fun y => if y = k then some vk else (fun y => if y = x then some v else m y) y) := by
  have : (fun y => if y = x then some v else m y) = m := by
    funext y
    by_cases c : y = x
    · rw [if_pos c, c, e]
    · rw [if_neg c]
  rw [this]; exact F
def DeedIn (o : List (Addr × Obj)) (v : Value) (D : Deed) : Prop := ∃ a t1 t2 t3 t4 n, v = .ref a ∧ (a, ({ cls := .type "tuple", data := .seq #[.str D.n t1, .int D.k t2, .str D.v t3, .int D.p t4] n } : Obj)) ∈ o ∧ D.n ∈ namesL ∧ D.v ∈ valsL ∧ 0 ≤ D.k ∧ D.k < 6
inductive DeedsAre (o : List (Addr × Obj)) : List Value → List Deed → Prop
  | nil : DeedsAre o [] []
  | cons {v : Value} {D : Deed} {vs : List Value} {ds : List Deed} : DeedIn o v D → DeedsAre o vs ds → DeedsAre o (v :: vs) (D :: ds)
theorem DeedsAre.length {o : List (Addr × Obj)} {vs : List Value} {ds : List Deed} (h : DeedsAre o vs ds) : vs.length = ds.length := by
  induction h with
  | nil => rfl
  | cons _ _ ih => rw [List.length_cons, List.length_cons, ih]
theorem DeedsAre.get {o : List (Addr × Obj)} {vs : List Value} {ds : List Deed} (h : DeedsAre o vs ds) {i : Nat} (hi : i < ds.length) : ∃ v, vs[i]? = some v ∧ DeedIn o v (ds[i]'hi) := by
  induction h generalizing i with
  | nil => exact absurd hi (Nat.not_lt_zero _)
  | cons x _ ih =>
    cases i with
    | zero => exact ⟨_, rfl, x⟩
    | succ i => exact ih (Nat.lt_of_succ_lt_succ hi)
def DeedsIn (o : List (Addr × Obj)) (l : Addr) (ds : List Deed) : Prop := ∃ vs n, (l, listOf vs.toArray n) ∈ o ∧ DeedsAre o vs ds
section
variable {w : World} {rest own : List (Addr × Obj)} {b d sl : Addr} {tab : Tab} {seen : List (List Str)} {fz : Bool} {ep : Nat} {es : List EntC} {sv : List Value} {sn : Nat} {o2 nx : List (Addr × Obj)}
theorem RunSt.withOwn (R : RunSt w rest [] b d sl tab seen fz ep es sv sn o2 nx) (hoff : OwnOff own (nx.map (·.1))) : ∃ nx', RunSt w rest own b d sl tab seen fz ep es sv sn o2 nx' ∧ ∀ p ∈ nx', p ∈ nx ++ own := by
  have off : ∀ p ∈ own, ∀ q ∈ nx, p.1 ≠ q.1 := fun p hp q hq => hoff p hp q.1 (List.mem_map.mpr ⟨q, hq, rfl⟩)
  refine ⟨_, ⟨⟨rfl, R.S.ndl, R.S.nb, ?_, ?_, R.S.ndn, R.S.txt, R.S.sys⟩, R.tab, R.seen, R.slo, fun p hp => off p hp _ R.slin, fun p hp q hq => off p hp q (R.o2in hq), R.rest, R.ph⟩, fun p hp => ?_⟩
  · intro p hp
    rcases List.mem_append.mp hp with hp | hp
    · exact off p hp _ R.S.book
    · exact R.S.ob p hp
  · intro p hp x hx
    rcases List.mem_append.mp hp with hp | hp
    · exact off p hp _ (R.S.list hx)
    · exact R.S.oe p hp x hx
  · rcases List.mem_cons.mp hp with rfl | hp
    · exact List.mem_append.mpr (.inl R.S.book)
    · rcases List.mem_append.mp hp with hp | hp
      · obtain ⟨x, hx, rfl⟩ := List.mem_map.mp hp
        exact List.mem_append.mpr (.inl (R.S.list hx))
      · rcases List.mem_append.mp hp with hp | hp
        · exact List.mem_append.mpr (.inr hp)
        · exact List.mem_append.mpr (.inl (R.S.oth hp))
theorem RunSt.dropOwn (R : RunSt w rest own b d sl tab seen fz ep es sv sn o2 nx) : ∃ nx', RunSt w rest [] b d sl tab seen fz ep es sv sn o2 nx' ∧ (∀ p ∈ nx', p ∈ nx) ∧ OwnOff own (nx'.map (·.1)) := by
  obtain ⟨nx', S', hsub⟩ := R.S.swap (other2 := (sl, listOf sv.toArray sn) :: o2) fun p hp => List.mem_append.mpr (.inr hp)
  refine ⟨nx', ⟨S', R.tab, R.seen, R.slo, (fun p hp => nomatch hp), (fun p hp => nomatch hp), R.rest, R.ph⟩, hsub, ?_⟩
  intro p hp a ha
  obtain ⟨q, hq, rfl⟩ := List.mem_map.mp ha
  rw [S'.led] at hq
  rcases List.mem_cons.mp hq with rfl | hq
  · exact R.S.ob p (List.mem_append.mpr (.inl hp))
  · rcases List.mem_append.mp hq with hq | hq
    · obtain ⟨x, hx, rfl⟩ := List.mem_map.mp hq
      exact R.S.oe p (List.mem_append.mpr (.inl hp)) x hx
    · rcases List.mem_cons.mp hq with rfl | hq
      · exact R.slw p hp
      · exact R.oo p hp q hq
theorem R_gm {A : Around} {Q : Value × List Value → Shared → Prop} {E : Value → Shared → Prop} {s : Shared} {h₀ : Heap} {L : Addr} {m : Str → Option Value} {name : Str} {pl : Sem Bool} {f : Value} {T : String} (F : Fr h₀ L s.heap m) (X : (hd.heap_1 w.params).In h₀) (N : News h₀ L s.heap nx) (R : RunSt w rest own b d sl tab seen fz ep es sv sn o2 nx)
    (hn : name ≠ Str.ofString "_frozen") (hf : findIn (hd.heap_1 w.params) (.ref 108) name = some (some f)) (ht : typeIn (hd.heap_1 w.params) f = some (.type T)) (hT : T = "function" ∨ T = "method_descriptor") (hq : Q (f, [.ref b]) s) :
    wpAny (model PySem.Challenge.rw_in0186_01.row.prog w) A (getMethod (.ref b) name pl) Q E s := by
  revert hf ht X; k_fill; intro X hf ht
  obtain ⟨hp, gs, dr, tk, os⟩ := s
  have Xh := X.keeps F.keep
  rcases R.frz with z | z
  · exact book_gm Xh (N _ R.S.book).1 (ns_empty (N _ (R.S.oth z.1)).1) rfl hf ht hT (by k_is) (by k_is) hq
  · obtain ⟨fn, sc, c', oc, so0, vs, tq, t2, ctv, pm, ps, bdy, scp, h1, h2, _⟩ := z.1
    exact book_gm Xh (N _ R.S.book).1 (ns_frozen (N _ (R.S.oth h2)).1) (if_neg hn) hf ht hT (by k_is) (by k_is) hq
end
end
section
open PySem PySem.W PySem.Calls
open PyProof.Rows hiding wpAt wpAt_mono wpAt_bind wpAt_stack strKind
open PySem.W.X (Mem)
set_option Elab.async false
set_option maxRecDepth 100000
set_option maxHeartbeats 2000000
set_option pp.deepTerms false
set_option pp.maxSteps 3000
theorem tell_call {w : World} {f : Addr} {args : List Value} {need : Nat} {news : List (Addr × Obj)} {R : Value → List (Addr × Obj) → Prop} (h : Tell w f args need news R)
    {mean : ExcName → Option Value} {mg mb : Str → Option Value} {dp un : Nat} {gd : Option (List Code)} {cn : Str} {cs : Scope} {a : Addr} {ccd : Value} {cl : List (Str × Addr)} {outer : List Env} {A₀ : Around} {base h₀ : Heap} {L : Addr} {m : Str → Option Value} {s : Shared} {Q E : Value → Shared → Prop}
    (B : Below A₀ base outer h₀) (F : Fr h₀ L s.heap m) (X : (hd.heap_1 w.params).In h₀) (N : News h₀ L s.heap news) (T : Top topProg lo mean mg mb h₀) (hk : cs.kind = .function) (hdp : dp + need ≤ 700) (hun : un + 8 * need ≤ 7000)
    (hq : ∀ r news' h' tk', Fr h₀ L h' m → News h₀ L h' news' → R r news' → Q r { s with heap := h', toks := tk' }) :
    wpAny (model PySem.Challenge.rw_in0186_01.row.prog w) (ktrTop dp un gd cn cs L a ccd cl outer) (call (.ref f) args) Q E s := h mean mg mb dp un gd cn cs a ccd cl outer A₀ base h₀ L m s Q E B F X N T hk hdp hun hq
def RunJ (w : World) (rest : List (Addr × Obj)) (b d sl dl : Addr) (ds : List Deed) (u : Int) (tu : Tok) (i : Nat) (m : Str → Option Value) (nx : List (Addr × Obj)) : Prop :=
  ∃ ep es sv sn o2, RunSt w rest [] b d sl (runTo ds u i).1 (runTo ds u i).2 (decide (u < (i : Int))) ep es sv sn o2 nx ∧ es.length ≤ i ∧ sv.length ≤ i ∧ (∀ x ∈ es, x.vs.length ≤ i) ∧
    m (Str.ofString "deeds") = some (.ref dl) ∧ m (Str.ofString "until") = some (.int u tu) ∧ m (Str.ofString "book") = some (.ref b) ∧ m (Str.ofString "seen") = some (.ref sl)
section
variable {w : World} {rest own : List (Addr × Obj)} {b d sl : Addr} {tab : Tab} {seen : List (List Str)} {fz : Bool} {ep : Nat} {es : List EntC} {sv : List Value} {sn : Nat} {o2 nx : List (Addr × Obj)}
theorem R_pair {h₀ h : Heap} {L x dd : Addr} {n v : Str} {tn tv : Tok} (N : News h₀ L h ((x, pairObj n v tn tv dd) :: (dd, emptyDict) :: nx)) (R : RunSt w rest own b d sl tab seen fz ep es sv sn o2 nx) (hfr : ∀ q ∈ nx, q.1 ≠ x ∧ q.1 ≠ dd) :
    ∃ nx', RunSt w rest own b d sl tab seen fz ep es sv sn ((x, pairObj n v tn tv dd) :: (dd, emptyDict) :: o2) nx' ∧ News h₀ L h nx' := by
  obtain ⟨n1, R1, h1⟩ := R.ext (x := (dd, emptyDict)) fun q hq => (hfr q hq).2
  have ne : dd ≠ x := by
    rintro rfl
    have q0 := (N _ (.head _)).1
    have q1 := (N _ (.tail _ (.head _))).1
    dsimp only at q0 q1
    rw [q0] at q1
    have := congrArg (fun o => o.map Obj.cls) q1
    simp [pairObj, emptyDict] at this
  obtain ⟨n2, R2, h2⟩ := R1.ext (x := (x, pairObj n v tn tv dd)) fun q hq => by
    rcases List.mem_cons.mp (h1 q hq) with rfl | hq
    · exact ne
    · exact (hfr q hq).1
  refine ⟨n2, R2, fun p hp => N p ?_⟩
  rcases List.mem_cons.mp (h2 p hp) with rfl | hp
  · exact .head _
  · exact .tail _ (h1 p hp)
theorem R_one {h₀ h : Heap} {L : Addr} {x : Addr × Obj} (N : News h₀ L h (x :: nx)) (R : RunSt w rest own b d sl tab seen fz ep es sv sn o2 nx) (hfr : ∀ q ∈ nx, q.1 ≠ x.1) :
    ∃ nx', RunSt w rest own b d sl tab seen fz ep es sv sn (x :: o2) nx' ∧ News h₀ L h nx' := by
  obtain ⟨n1, R1, h1⟩ := R.ext (x := x) hfr
  exact ⟨n1, R1, fun p hp => N p (h1 p hp)⟩
theorem book_sub {A : Around} {Q : Value → Shared → Prop} {E : Value → Shared → Prop} {s : Shared} {h₀ : Heap} {L : Addr} {m : Str → Option Value} {value slice : Expr} {i : Value} (F : Fr h₀ L s.heap m) (X : (hd.heap_1 w.params).In h₀) (N : News h₀ L s.heap nx) (R : RunSt w rest own b d sl tab seen fz ep es sv sn o2 nx)
    (hs : subscripted slice false (.ref b) i = operate [.ref b, i] (getItem (.ref b) i)) (h : wpAny (model PySem.Challenge.rw_in0186_01.row.prog w) A (getItem (.ref b) i) Q E s) :
    wpAny (model PySem.Challenge.rw_in0186_01.row.prog w) A (subscriptTail value slice (.ref b) i) Q E s := by
  revert X; k_fill; intro X
  have Xh := X.keeps F.keep
  have hb := (N _ R.S.book).1
  obtain ⟨hp, gs, dr, tk, os⟩ := s
  have T0 : Looks (model PySem.Challenge.rw_in0186_01.row.prog w) hp (typeOf (.ref b)) (.ref 108) := (Looks.ld hb).andThen .now
  have L1 : Looks (model PySem.Challenge.rw_in0186_01.row.prog w) hp (specialOf (.ref b) "__getitem__") (some (.builtin "dict.__getitem__")) := T0.andThen (looks_findIn Xh (by k_is))
  unfold subscriptTail getitemInPython
  refine wpAny_bind (wpAny_bind (L1.at (wpAny_pure ?_)))
  refine wpAny_bind ?_
  rw [hs]
  exact wpAny_operating (wpAny_mono h (fun r s₃ h₃ => wpAny_bind (wpAny_letTemporaryGo (wpAny_pure h₃))) fun _ _ x => x)
theorem turn_end {g : Heap} {L : Addr} {s : Shared} {h' : Heap} {tk' : Nat} {m : Str → Option Value} {Q : Flow → Shared → Prop} {dl : Addr} {ds : List Deed} {u : Int} {tu : Tok} {i : Nat} (F : Fr g L h' m) (N : News g L h' nx)
    (R : RunSt w rest own b d sl tab seen fz ep es sv sn o2 nx) (ht : tab = (runTo ds u (i + 1)).1) (hs : seen = (runTo ds u (i + 1)).2) (hf : fz = decide (u ≤ (i : Int))) (l1 : es.length ≤ i + 1) (l2 : sv.length ≤ i + 1) (l3 : ∀ x ∈ es, x.vs.length ≤ i + 1)
    (md : m (Str.ofString "deeds") = some (.ref dl)) (mu : m (Str.ofString "until") = some (.int u tu)) (mk : m (Str.ofString "book") = some (.ref b)) (ms : m (Str.ofString "seen") = some (.ref sl)) :
    InvPostG g L (RunJ w rest b d sl dl ds u tu (i + 1)) own s Q .next { s with heap := h', toks := tk' } := by
  obtain ⟨nx', R', hsub, hoff⟩ := R.dropOwn
  subst ht hs
  rw [hf, show decide (u ≤ (i : Int)) = decide (u < ((i + 1 : Nat) : Int)) from decide_eq_decide.mpr (by omega)] at R'
  exact ⟨h', tk', m, nx, nx', rfl, F, N, hsub, fun p hp => R.ownin hp, hoff, ep, es, sv, sn, o2, R', l1, l2, l3, md, mu, mk, ms⟩
end
section
variable {ds : List Deed} {u : Int} {i : Nat} {D : Deed}
theorem run_at (h : ds[i]? = some D) : runTo ds u (i + 1) = (act (decide (u ≤ (i : Int))) (runTo ds u i).1 D, if D.k = 3 then (runTo ds u i).2 ++ [lookD (runTo ds u i).1 D.n] else (runTo ds u i).2) := by
  show (match ds[i]? with | some D => _ | none => _) = _
  rw [h]
theorem act_hit_lt {fz : Bool} {tab : Tab} (hk : D.k < 3) (hh : hasN tab D.n) : act fz tab D = addTo tab D.n D.v := by unfold act; rw [if_pos hk, if_pos hh]
theorem act_new_lt {tab : Tab} (hk : D.k < 3) (hh : ¬ hasN tab D.n) : act false tab D = tab ++ [(D.n, [D.v])] := by unfold act; rw [if_pos hk, if_neg hh, if_neg (by decide)]
theorem act_frz_lt {tab : Tab} (hk : D.k < 3) (hh : ¬ hasN tab D.n) : act true tab D = tab := by unfold act; rw [if_pos hk, if_neg hh, if_pos rfl]
theorem act_hit_3 {fz : Bool} {tab : Tab} (hk : D.k = 3) (hh : hasN tab D.n) : act fz tab D = tab := by unfold act; rw [if_neg (by omega), if_pos hk, if_pos hh]
theorem act_new_3 {tab : Tab} (hk : D.k = 3) (hh : ¬ hasN tab D.n) : act false tab D = tab ++ [(D.n, [])] := by unfold act; rw [if_neg (by omega), if_pos hk, if_neg hh, if_neg (by decide)]
theorem act_frz_3 {tab : Tab} (hk : D.k = 3) (hh : ¬ hasN tab D.n) : act true tab D = tab := by unfold act; rw [if_neg (by omega), if_pos hk, if_neg hh, if_pos rfl]
theorem act_hit_4 {fz : Bool} {tab : Tab} (hk : D.k = 4) (hh : hasN tab D.n) : act fz tab D = addTo tab D.n D.v := by unfold act; rw [if_neg (by omega), if_neg (by omega), if_pos hk, if_pos hh]
theorem act_new_4 {fz : Bool} {tab : Tab} (hk : D.k = 4) (hh : ¬ hasN tab D.n) : act fz tab D = tab ++ [(D.n, [D.v])] := by unfold act; rw [if_neg (by omega), if_neg (by omega), if_pos hk, if_neg hh]
theorem act_pop {fz : Bool} {tab : Tab} (h1 : ¬ D.k < 3) (h2 : ¬ D.k = 3) (h3 : ¬ D.k = 4) : act fz tab D = tab.filter fun r => decide (r.1 ≠ D.n) := by unfold act; rw [if_neg h1, if_neg h2, if_neg h3]
theorem seen_no (h : ds[i]? = some D) (hk : ¬ D.k = 3) : (runTo ds u i).2 = (runTo ds u (i + 1)).2 := by rw [run_at h, if_neg hk]
theorem seen_yes (h : ds[i]? = some D) (hk : D.k = 3) : (runTo ds u i).2 ++ [lookD (runTo ds u i).1 D.n] = (runTo ds u (i + 1)).2 := by rw [run_at h, if_pos hk]
theorem app_len (es : List EntC) (l : Addr) (v : Value) (y : Str) : (app es l v y).length = es.length := by unfold app; simp
theorem app_vs {es : List EntC} {l : Addr} {v : Value} {y : Str} {n : Nat} (h : ∀ x ∈ es, x.vs.length ≤ n) : ∀ x ∈ app es l v y, x.vs.length ≤ n + 1 := by
  intro x hx
  obtain ⟨a, ha, _, e⟩ := mem_app hx
  rw [e]
  have := h a ha
  split
  · show (a.vs ++ [v]).length ≤ n + 1
    rw [List.length_append, List.length_singleton]; omega
  · omega
theorem add_vs {es : List EntC} {k : Str} {t : Tok} {l : Addr} {n : Nat} (h : ∀ x ∈ es, x.vs.length ≤ n) : ∀ x ∈ es ++ [newE k t l], x.vs.length ≤ n := by
  intro x hx
  rcases List.mem_append.mp hx with hx | hx
  · exact h x hx
  · rw [List.mem_singleton.mp hx]; exact Nat.zero_le _
end
end
section
open PySem PySem.W PySem.Calls
open PyProof.Rows hiding wpAt wpAt_mono wpAt_bind wpAt_stack strKind
open PySem.W.X (Mem)
set_option Elab.async false
set_option maxRecDepth 100000
set_option maxHeartbeats 2000000
set_option pp.deepTerms false
set_option pp.maxSteps 3000
def runP (K : Frag) : Option (List Stmt × Scope × Value) := match K.lookup 234 with
  | some ⟨_, _, .func fd, _⟩ => match fd.body with
    | .stmts (_ :: _ :: .For _ _ body _ _ :: _) => some (body, fd.scope, fd.code)
    | _ => none
  | _ => none
local macro_rules | `(tactic| walk_at "getMethod ref") => `(tactic| (k_here; (first
  | (refine' getMethod_append_N ?N ?m ?_ ?c ?d; (case N => k_asm); (case m => first | exact .head _ | exact BookSt.list (RunSt.S (by assumption)) (by assumption) | exact BookSt.list (RunSt.S (by assumption)) (List.mem_append.mpr (.inr (.head _))) | exact RunSt.slin (by assumption)); (case c => exact rfl); (case d => exact rfl))
  | (refine' R_gm ?F ?X ?N ?R ?n ?f ?t ?T ?_; (case F => k_asm); (case X => k_asm); (case N => k_asm); (case R => assumption); (case n => decide); (case f => k_dflt k_is); (case t => k_dflt k_is); (case T => first | exact .inl rfl | exact .inr rfl)))))
local macro_rules | `(tactic| walk_at "subscriptTail") => `(tactic| (k_here; (with_reducible show wpAny _ _ (subscriptTail _ _ (Value.ref _) (Value.int _ _)) _ _ _); (refine' item_list (items := List.toArray _) ?l ?a ?b ?c ?_; (case l => exact News.isL (by k_asm) (RunSt.o2in (by assumption) (RunSt.rest (by assumption) _ (by assumption)))); (case a => omega); (case b => omega); (case c => (simpa using (by assumption))))))
local macro_rules | `(tactic| walk_at "subscriptTail") => `(tactic| (k_here; (with_reducible show wpAny _ _ (subscriptTail _ _ (Value.ref _) (Value.str _ _)) _ _ _); (refine' book_sub ?F ?X ?N ?R ?s (R_get _ ?B ?F ?X ?N ?T ?k ?d ?u ?R ?z ?_ ?_ ?_); (case F => k_asm); (case X => k_asm); (case N => k_asm); (case R => assumption); (case s => with_unfolding_all rfl); (case B => k_asm); (case T => k_asm); (case k => rfl); (case d => omega); (case u => omega); (case z => (rw [sizeLine_eq]; omega))); (first | (intro x' hx' hn' tk') | (intro hf' hno' l' h' tk' nx' F' N' R') | (intro hf' hno' l' h' tk' F' N' hl'))))
local macro_rules | `(tactic| walk_at "assign Tuple") => `(tactic| (k_here; (with_reducible show wpAny _ _ (assign (Expr.Tuple _ _ _) _ (Value.ref _)) _ _ _); (refine' unpackN_ ?F ?N ?T ?k1 ?k2 ?k3 ?_; (case F => k_asm); (case N => k_asm); (case T => exact News.isTup (by k_asm) (RunSt.o2in (by assumption) (RunSt.rest (by assumption) _ (by assumption)))); (case k1 => exact rfl); (case k2 => exact rfl); (case k3 => exact rfl)); intro h' F' N'))
local macro_rules | `(tactic| walk_at "getAttr") => `(tactic| (k_here; (with_reducible show wpAny _ _ (getAttr _ (Str.ofString "name") _) _ _ _); (refine' pair_name _ ?B ?F ?X ?N ?T ?k ?d ?u ?x ?y ?_; (case B => k_asm); (case F => k_asm); (case X => k_asm); (case N => k_asm); (case T => k_asm); (case k => rfl); (case d => omega); (case u => omega); (case x => first | exact RunSt.o2in (by assumption) (.head _) | exact .tail _ (RunSt.o2in (by assumption) (.head _))); (case y => first | exact RunSt.o2in (by assumption) (.tail _ (.head _)) | exact .tail _ (RunSt.o2in (by assumption) (.tail _ (.head _))))); intro h' tk' F' N'))
local macro_rules | `(tactic| walk_at "getAttr") => `(tactic| (k_here; (with_reducible show wpAny _ _ (getAttr _ (Str.ofString "value") _) _ _ _); (refine' pair_value _ ?B ?F ?X ?N ?T ?k ?d ?u ?x ?y ?_; (case B => k_asm); (case F => k_asm); (case X => k_asm); (case N => k_asm); (case T => k_asm); (case k => rfl); (case d => omega); (case u => omega); (case x => first | exact RunSt.o2in (by assumption) (.head _) | exact .tail _ (RunSt.o2in (by assumption) (.head _))); (case y => first | exact RunSt.o2in (by assumption) (.tail _ (.head _)) | exact .tail _ (RunSt.o2in (by assumption) (.tail _ (.head _))))); intro h' tk' F' N'))
def Joined (w : World) (rest own : List (Addr × Obj)) (b d sl : Addr) (tab : Tab) (seen : List (List Str)) (fz : Bool) (ep : Nat) (es : List EntC) (sv : List Value) (sn : Nat) (g : Heap) (L : Addr) (m : Str → Option Value) (s : Shared) (f : Flow) (s' : Shared) : Prop :=
  f = Flow.next ∧ ∃ h' tk' o2' nx', s' = { s with heap := h', toks := tk' } ∧ Fr g L h' m ∧ News g L h' nx' ∧ RunSt w rest own b d sl tab seen fz ep es sv sn o2' nx'
theorem turn_spec (w : World) {rest : List (Addr × Obj)} {dl b d sl : Addr} {ds : List Deed} {u : Int} {tu : Tok} (hD : DeedsIn rest dl ds) (hlen : ds.length ≤ 10) (hu0 : 0 ≤ u) (hrd : ∀ p ∈ rest, p.1 ≠ d ∧ p.1 ≠ 100) {i : Nat} (hi : i < ds.length)
    {mean : ExcName → Option Value} {mg mb : Str → Option Value} {dp un : Nat} {gd : Option (List Code)} {outer : List Env} {A₀ : Around} {base g : Heap} {L : Addr} {m₁ : Str → Option Value} {nx own : List (Addr × Obj)} {Q : Flow → Shared → Prop} {E : Value → Shared → Prop} {s : Shared} {bod : List Stmt} {sco : Scope} {cdv : Value} {ti : Tok} {ep sn : Nat} {es : List EntC} {sv : List Value} {o2 : List (Addr × Obj)}
    (B : Below A₀ base outer g) (X : (hd.heap_1 w.params).In g) (T : Top topProg lo mean mg mb g) (hdp : dp ≤ 680) (hun : un ≤ 6800) (hP : runP (hd.heap_1 w.params) = some (bod, sco, cdv))
    (R : RunSt w rest own b d sl (runTo ds u i).1 (runTo ds u i).2 (decide (u < (i : Int))) ep es sv sn o2 nx) (le1 : es.length ≤ i) (le2 : sv.length ≤ i) (le3 : ∀ x ∈ es, x.vs.length ≤ i)
    (F : Fr g L s.heap (fun y => if y = Str.ofString "k" then some (.int (i : Int) ti) else if y = Str.ofString "deeds" then some (.ref dl) else if y = Str.ofString "until" then some (.int u tu) else if y = Str.ofString "book" then some (.ref b) else if y = Str.ofString "seen" then some (.ref sl) else m₁ y)) (N : News g L s.heap nx) :
    wpAny (model PySem.Challenge.rw_in0186_01.row.prog w) (ktrTop dp un gd (Str.ofString "_law_run") sco L 234 cdv [] outer) (execs bod (envX (Str.ofString "_law_run") sco L 234 cdv [])) (InvPostG g L (RunJ w rest b d sl dl ds u tu (i + 1)) own s Q) E s := by
  obtain ⟨dvs, dn, hdl, hda⟩ := hD
  obtain ⟨dv, hdv, hdi⟩ := hda.get hi
  revert hP X
  k_fill
  intro X hP
  have hP' : ∃ x, runP (hd.heap_1 w.params) = some x ∧ x = (bod, sco, cdv) := ⟨_, hP, rfl⟩
  clear hP
  obtain ⟨x, hx, hxe⟩ := hP'
  have hx2 := hx
  rw [show runP (hd.heap_1 w.params) = some _ from rfl] at hx2
  have hx3 := Option.some.inj hx2
  rw [← hx3] at hxe
  obtain ⟨hxa, hxf⟩ := Prod.mk.inj hxe
  obtain ⟨hxb, hxc⟩ := Prod.mk.inj hxf
  clear hx hx2 hx3 hxe hxf
  subst hxa hxb hxc
  obtain ⟨ta, t1, t2, t3, t4, tn, rfl, htup, hDn, hDv, hk0, hk6⟩ := hdi
  refine wpAny_execs_cons ?_
  refine wpAny_mono (Q := Joined w rest own b d sl (runTo ds u i).1 (runTo ds u i).2 (decide (u ≤ (i : Int))) ep es sv sn g L (fun y => if y = Str.ofString "k" then some (.int (i : Int) ti) else if y = Str.ofString "deeds" then some (.ref dl) else if y = Str.ofString "until" then some (.int u tu) else if y = Str.ofString "book" then some (.ref b) else if y = Str.ofString "seen" then some (.ref sl) else m₁ y) s) (E := E) ?_ ?_ (fun _ _ z => z)
  · by_cases hiu : (i : Int) = u
    · rw [show decide (u < (i : Int)) = false from decide_eq_false (by omega)] at R
      rw [show decide (u ≤ (i : Int)) = true from decide_eq_true (by omega)]
      repeat' ((fail_if_success (with_reducible show wpAny _ _ (call (Value.ref 105) _) _ _ _)); first | (k_unfold; (try dsimp only)) | (k_end; wrow_close) | (dsimp only; walk1) | walk1)
      · refine R_freeze _ (by k_asm) (by k_asm) (by k_asm) (by k_asm) (by k_asm) rfl (by omega) (by omega) R hrd ?_
        intro h' tk' o2' nx' F' N' R'
        exact wpAny_pure ⟨rfl, h', tk', o2', nx', rfl, F', N', R'⟩
      · exact absurd hiu (by assumption)
    · rw [show decide (u < (i : Int)) = decide (u ≤ (i : Int)) from decide_eq_decide.mpr (by omega)] at R
      repeat' ((fail_if_success (with_reducible show wpAny _ _ (call (Value.ref 105) _) _ _ _)); first | (k_unfold; (try dsimp only)) | (k_end; wrow_close) | (dsimp only; walk1) | walk1)
      · exact absurd (by assumption) hiu
      · exact ⟨rfl, _, _, _, _, rfl, F, N, R⟩
  rintro f s1 ⟨rfl, h1, tk1, o21, nx1, rfl, F1, N1, R1⟩
  clear R N F
  dsimp only
  repeat' ((fail_if_success (with_reducible show wpAny _ _ (call (Value.ref 227) _) _ _ _)); first | (k_unfold; (try dsimp only)) | (k_end; wrow_close) | (dsimp only; walk1) | walk1)
  refine' tell_call (read_spec _ _ _ _ _ _ _ _ ?n ?v) ?B ?F ?X ?N ?T ?k ?d ?u ?_
  case n => assumption
  case v => assumption
  case B => k_asm
  case F => k_asm
  case X => k_asm
  case N => k_asm
  case T => k_asm
  case k => rfl
  case d => omega
  case u => omega
  intro r' news' h' tk' F' N' hR'
  obtain ⟨x', tn', tv', dd', rfl, rfl, hfr'⟩ := hR'
  with_reducible rename RunSt _ _ _ _ _ _ _ _ _ _ _ _ _ _ _ => oR'
  have nR' := R_pair N' oR' hfr'
  obtain ⟨nx', R', N2'⟩ := nR'
  clear oR' N'
  have hDi : ds[i]? = some ds[i] := List.getElem?_eq_getElem hi
  have hszL : ∀ n : Nat, n ≤ 1000 → n ≤ sizeLine := fun n h => by rw [sizeLine_eq]; omega
  repeat' ((fail_if_success (with_reducible show InvPostG _ _ _ _ _ _ _ _)); (fail_if_success (with_reducible show wpAny _ _ (call (Value.builtin _) (Value.ref _ :: _ :: _)) _ _ _)); first | (k_unfold; (try dsimp only)) | (k_end; wrow_close) | (dsimp only; walk1) | walk1)
  · rename _ ∈ es => hx
    rename EntC.n _ = _ => hxn
    rename RunSt _ _ _ _ _ _ _ _ _ _ _ _ _ _ _ => RR
    have l3 := le3 _ hx
    refine op_append (by k_asm) (by k_asm) RR.S hx (hszL _ (by omega)) ?_
    intro h' nx' F' N' S'
    repeat' ((fail_if_success (with_reducible show InvPostG _ _ _ _ _ _ _ _)); (fail_if_success (with_reducible show wpAny _ _ (call (Value.builtin _) (Value.ref _ :: _ :: _)) _ _ _)); first | (k_unfold; (try dsimp only)) | (k_end; wrow_close) | (dsimp only; walk1) | walk1)
    refine turn_end F' N' (RR.book' S' rfl) ?_ (seen_no hDi (by omega)) rfl (by rw [app_len]; omega) (by omega) (app_vs le3) rfl rfl rfl rfl
    rw [run_at hDi, rows_app RR.S.ndl RR.S.ndn hx, hxn, RR.tab, act_hit_lt (by assumption) (RR.tab ▸ rows_has.mpr ⟨_, hx, hxn⟩)]
  · rename decide _ = false => hfz
    rename (∀ x ∈ es, _ ≠ _) => hno
    with_reducible rename RunSt _ _ _ _ _ _ _ _ _ _ (es ++ _) _ _ _ _ => RR
    have hnh : ¬ hasN (runTo ds u i).1 ds[i].n := fun z => rows_not hno (R'.tab ▸ z)
    refine op_append (x := newE _ _ _) (by k_asm) (by k_asm) RR.S (List.mem_append.mpr (.inr (.head _))) (hszL _ (Nat.zero_le _)) ?_
    intro h' nx' F' N' S'
    repeat' ((fail_if_success (with_reducible show InvPostG _ _ _ _ _ _ _ _)); (fail_if_success (with_reducible show wpAny _ _ (call (Value.builtin _) (Value.ref _ :: _ :: _)) _ _ _)); first | (k_unfold; (try dsimp only)) | (k_end; wrow_close) | (dsimp only; walk1) | walk1)
    refine turn_end F' N' (RR.book' S' rfl) ?_ (seen_no hDi (by omega)) rfl (by rw [app_len, List.length_append]; simp; omega) (by omega) (app_vs (add_vs le3)) rfl rfl rfl rfl
    rw [run_at hDi, rows_app (x := newE _ _ _) RR.S.ndl RR.S.ndn (List.mem_append.mpr (.inr (.head _))), RR.tab]
    show addTo ((runTo ds u i).1 ++ [(ds[i].n, [])]) ds[i].n ds[i].v = _
    rw [addTo_new hnh, hfz, act_new_lt (by assumption) hnh]
  · rename decide _ = true => hfz
    rename (∀ x ∈ es, _ ≠ _) => hno
    rename (∀ q ∈ _, Prod.fst q ≠ _) => hfl
    with_reducible rename RunSt _ _ _ _ _ _ _ _ _ _ _ _ _ _ _ => RR
    have hnh : ¬ hasN (runTo ds u i).1 ds[i].n := fun z => rows_not hno (RR.tab ▸ z)
    refine op_appendFree (by k_asm) (by k_asm) hfl ?_
    intro h' F' N'
    repeat' ((fail_if_success (with_reducible show InvPostG _ _ _ _ _ _ _ _)); (fail_if_success (with_reducible show wpAny _ _ (call (Value.builtin _) (Value.ref _ :: _ :: _)) _ _ _)); first | (k_unfold; (try dsimp only)) | (k_end; wrow_close) | (dsimp only; walk1) | walk1)
    refine turn_end F' N' RR ?_ (seen_no hDi (by omega)) rfl (by omega) (by omega) (fun x hx => Nat.le_succ_of_le (le3 x hx)) rfl rfl rfl rfl
    rw [run_at hDi, hfz, act_frz_lt (by assumption) hnh]
  · rename _ ∈ es => hx
    rename EntC.n _ = _ => hxn
    with_reducible rename RunSt _ _ _ _ _ _ _ _ _ _ _ _ _ _ _ => RR
    have l3 := le3 _ hx
    rename Fr _ _ _ _ => FF
    rename News _ _ _ (_ :: _) => NN
    rename (∀ p ∈ _, Prod.fst p < _) => llt
    refine add_lists FF NN (News.isL NN (.tail _ (RR.S.list hx))) (News.isL (vs := []) NN (.head _)) ?_ (by rw [sizeLine_eq]; simp; omega)
    intro h' F' N'
    obtain ⟨nx9, R9, N9⟩ := R_one (x := (_, _)) (fun p hp => N' p (by
      rcases List.mem_cons.mp hp with rfl | hp
      · exact .head _
      · exact .tail _ (.tail _ hp))) RR (fun q hq => Nat.ne_of_lt (Heap.lt_size (NN q (.tail _ hq)).1))
    repeat' ((fail_if_success (with_reducible show InvPostG _ _ _ _ _ _ _ _)); (fail_if_success (with_reducible show wpAny _ _ (call (Value.builtin _) (Value.ref _ :: _ :: _)) _ _ _)); first | (k_unfold; (try dsimp only)) | (k_end; wrow_close) | (dsimp only; walk1) | walk1)
    refine R_seenAppend (ws := _) (by k_asm) (by k_asm) R9 ⟨_, _, 0, rfl, .head _, (by rw [List.append_nil]; exact RR.S.txt _ hx)⟩ (hszL _ (by omega)) ?_
    intro h' nx' F' N' R'
    repeat' ((fail_if_success (with_reducible show InvPostG _ _ _ _ _ _ _ _)); (fail_if_success (with_reducible show wpAny _ _ (call (Value.builtin _) (Value.ref _ :: _ :: _)) _ _ _)); first | (k_unfold; (try dsimp only)) | (k_end; wrow_close) | (dsimp only; walk1) | walk1)
    refine turn_end F' N' R' ?_ ?_ rfl (by omega) (by rw [List.length_append, List.length_singleton]; omega) (fun x hx => Nat.le_succ_of_le (le3 x hx)) rfl rfl rfl rfl
    · rw [run_at hDi, act_hit_3 (by assumption) (RR.tab ▸ rows_has.mpr ⟨_, hx, hxn⟩)]
    · rw [← seen_yes hDi (by assumption), ← RR.tab, ← hxn, rows_look RR.S.ndn hx]
  · rename decide _ = false => hfz
    rename (∀ x ∈ es, _ ≠ _) => hno
    with_reducible rename RunSt _ _ _ _ _ _ _ _ _ _ (es ++ _) _ _ _ _ => RR
    have hnh : ¬ hasN (runTo ds u i).1 ds[i].n := fun z => rows_not hno (R'.tab ▸ z)
    rename Fr _ _ _ _ => FF
    rename News _ _ _ (_ :: _) => NN
    refine add_lists FF NN (News.isL (vs := []) NN (.tail _ (RR.S.list (List.mem_append.mpr (.inr (.head _)))))) (News.isL (vs := []) NN (.head _)) ?_ (by rw [sizeLine_eq]; simp)
    intro h' F' N'
    obtain ⟨nx9, R9, N9⟩ := R_one (x := (_, _)) (fun p hp => N' p (by
      rcases List.mem_cons.mp hp with rfl | hp
      · exact .head _
      · exact .tail _ (.tail _ hp))) RR (fun q hq => Nat.ne_of_lt (Heap.lt_size (NN q (.tail _ hq)).1))
    clear N'
    repeat' ((fail_if_success (with_reducible show InvPostG _ _ _ _ _ _ _ _)); (fail_if_success (with_reducible show wpAny _ _ (call (Value.builtin _) (Value.ref _ :: _ :: _)) _ _ _)); first | (k_unfold; (try dsimp only)) | (k_end; wrow_close) | (dsimp only; walk1) | walk1)
    refine R_seenAppend (ws := []) (by k_asm) (by k_asm) R9 ⟨_, [] ++ [], 0, rfl, .head _, .nil⟩ (hszL _ (by omega)) ?_
    intro h' nx' F' N' R''
    repeat' ((fail_if_success (with_reducible show InvPostG _ _ _ _ _ _ _ _)); (fail_if_success (with_reducible show wpAny _ _ (call (Value.builtin _) (Value.ref _ :: _ :: _)) _ _ _)); first | (k_unfold; (try dsimp only)) | (k_end; wrow_close) | (dsimp only; walk1) | walk1)
    refine turn_end F' N' R'' ?_ ?_ rfl (by rw [List.length_append]; simp; omega) (by rw [List.length_append, List.length_singleton]; omega) (fun x hx => Nat.le_succ_of_le (add_vs le3 x hx)) rfl rfl rfl rfl
    · rw [run_at hDi, hfz, act_new_3 (by assumption) hnh]
    · rw [← seen_yes hDi (by assumption), ← R'.tab, look_none hno]
  · rename decide _ = true => hfz
    rename (∀ x ∈ es, _ ≠ _) => hno
    with_reducible rename RunSt _ _ _ _ _ _ _ _ _ _ _ _ _ _ _ => RR
    have hnh : ¬ hasN (runTo ds u i).1 ds[i].n := fun z => rows_not hno (RR.tab ▸ z)
    rename News _ _ _ (_ :: _ :: _ :: _) => NN
    rename _ ∧ _ ∧ AllLt _ _ => llt
    obtain ⟨nx9, R9, N9⟩ := R_one (x := (_, W.listOf [].toArray 0)) (fun p hp => NN p (by
      rcases List.mem_cons.mp hp with rfl | hp
      · exact .head _
      · exact .tail _ (.tail _ (.tail _ hp)))) RR (fun q hq => Nat.ne_of_lt (ktn_ltOf llt.2.2 q hq))
    refine R_seenAppend (ws := []) (by k_asm) N9 R9 ⟨_, [], 0, rfl, .head _, .nil⟩ (hszL _ (by omega)) ?_
    intro h' nx' F' N' R''
    repeat' ((fail_if_success (with_reducible show InvPostG _ _ _ _ _ _ _ _)); (fail_if_success (with_reducible show wpAny _ _ (call (Value.builtin _) (Value.ref _ :: _ :: _)) _ _ _)); first | (k_unfold; (try dsimp only)) | (k_end; wrow_close) | (dsimp only; walk1) | walk1)
    refine turn_end F' N' R'' ?_ ?_ rfl (by omega) (by rw [List.length_append, List.length_singleton]; omega) (fun x hx => Nat.le_succ_of_le (le3 x hx)) rfl rfl rfl rfl
    · rw [run_at hDi, hfz, act_frz_3 (by assumption) hnh]
    · rw [← seen_yes hDi (by assumption), ← RR.tab, look_none hno]
  · with_reducible rename RunSt _ _ _ _ _ _ _ _ _ _ _ _ _ _ _ => RR
    rename (∀ p ∈ _, Prod.fst p < _) => llt
    refine op_setdefault (by k_asm) (by k_asm) (by k_asm) RR.S (hszL _ (by omega)) (fun q hq => Nat.ne_of_lt (llt q hq)) ?_ ?_
    · intro x hx hxn tk' N'
      have l3 := le3 _ hx
      repeat' ((fail_if_success (with_reducible show InvPostG _ _ _ _ _ _ _ _)); (fail_if_success (with_reducible show wpAny _ _ (call (Value.builtin _) (Value.ref _ :: _ :: _)) _ _ _)); first | (k_unfold; (try dsimp only)) | (k_end; wrow_close) | (dsimp only; walk1) | walk1)
      refine op_append (by k_asm) (by k_asm) RR.S hx (hszL _ (by omega)) ?_
      intro h' nx' F' N' S'
      repeat' ((fail_if_success (with_reducible show InvPostG _ _ _ _ _ _ _ _)); (fail_if_success (with_reducible show wpAny _ _ (call (Value.builtin _) (Value.ref _ :: _ :: _)) _ _ _)); first | (k_unfold; (try dsimp only)) | (k_end; wrow_close) | (dsimp only; walk1) | walk1)
      refine turn_end F' N' (RR.book' S' rfl) ?_ (seen_no hDi (by omega)) rfl (by rw [app_len]; omega) (by omega) (app_vs le3) rfl rfl rfl rfl
      rw [run_at hDi, rows_app RR.S.ndl RR.S.ndn hx, hxn, RR.tab, act_hit_4 (by assumption) (RR.tab ▸ rows_has.mpr ⟨_, hx, hxn⟩)]
    · intro hno h' tk' nx' F' N' S'
      have hnh : ¬ hasN (runTo ds u i).1 ds[i].n := fun z => rows_not hno (RR.tab ▸ z)
      have htab := RR.tab
      have R9 := RR.book' S' rfl
      clear RR S'
      repeat' ((fail_if_success (with_reducible show InvPostG _ _ _ _ _ _ _ _)); (fail_if_success (with_reducible show wpAny _ _ (call (Value.builtin _) (Value.ref _ :: _ :: _)) _ _ _)); first | (k_unfold; (try dsimp only)) | (k_end; wrow_close) | (dsimp only; walk1) | walk1)
      refine op_append (x := newE _ _ _) (by k_asm) (by k_asm) R9.S (List.mem_append.mpr (.inr (.head _))) (hszL _ (Nat.zero_le _)) ?_
      intro h' nx' F' N' S'
      repeat' ((fail_if_success (with_reducible show InvPostG _ _ _ _ _ _ _ _)); (fail_if_success (with_reducible show wpAny _ _ (call (Value.builtin _) (Value.ref _ :: _ :: _)) _ _ _)); first | (k_unfold; (try dsimp only)) | (k_end; wrow_close) | (dsimp only; walk1) | walk1)
      refine turn_end F' N' (R9.book' S' rfl) ?_ (seen_no hDi (by omega)) rfl (by rw [app_len, List.length_append]; simp; omega) (by omega) (app_vs (add_vs le3)) rfl rfl rfl rfl
      rw [run_at hDi, rows_app (x := newE _ _ _) R9.S.ndl R9.S.ndn (List.mem_append.mpr (.inr (.head _))), rows_add, htab]
      show addTo ((runTo ds u i).1 ++ [(ds[i].n, [])]) ds[i].n ds[i].v = _
      rw [addTo_new hnh, act_new_4 (by assumption) hnh]
  · with_reducible rename RunSt _ _ _ _ _ _ _ _ _ _ _ _ _ _ _ => RR
    refine op_pop (by k_asm) (by k_asm) (by k_asm) RR.S (hszL _ (by omega)) ?_
    intro v h' tk' nx' ep' F' N' S'
    repeat' ((fail_if_success (with_reducible show InvPostG _ _ _ _ _ _ _ _)); (fail_if_success (with_reducible show wpAny _ _ (call (Value.builtin _) (Value.ref _ :: _ :: _)) _ _ _)); first | (k_unfold; (try dsimp only)) | (k_end; wrow_close) | (dsimp only; walk1) | walk1)
    refine turn_end F' N' (RR.book' S' rfl) ?_ (seen_no hDi (by omega)) rfl (Nat.le_succ_of_le (Nat.le_trans (List.length_filter_le _ _) le1)) (by omega) (fun x hx => Nat.le_succ_of_le (le3 x (List.mem_filter.mp hx).1)) rfl rfl rfl rfl
    rw [run_at hDi, rows_drop, RR.tab, act_pop (by assumption) (by assumption) (by assumption)]
end
section
open PySem PySem.W PySem.Calls
open PyProof.Rows hiding wpAt wpAt_mono wpAt_bind wpAt_stack strKind
open PySem.W.X (Mem)
set_option Elab.async false
set_option maxRecDepth 100000
set_option maxHeartbeats 2000000
set_option pp.deepTerms false
set_option pp.maxSteps 3000

def Aft (h : Heap) (news : List (Addr × Obj)) (h' : Heap) (news' : List (Addr × Obj)) : Prop :=
  (∀ p ∈ news', p.1 ∈ news.map (·.1) ∨ h.get? p.1 = none) ∧ (∀ b o, h.get? b = some o → b ∉ news.map (·.1) → h'.get? b = some o)
def GOf (g h : Heap) (news : List (Addr × Obj)) : Prop := g = hideAll h (news.map (·.1))
theorem aft_of {g h h' : Heap} {news news' : List (Addr × Obj)} {L : Addr} {m : Str → Option Value} (G : GOf g h news) (F : Fr g L h' m) (N : News g L h' news') : Aft h news h' news' := by
  unfold GOf at G
  refine ⟨fun p hp => ?_, fun b o e hb => F.keep b o (by rw [G]; exact hideAll_get _ e hb)⟩
  by_cases c : p.1 ∈ news.map (·.1)
  · exact .inl c
  · refine .inr ?_
    cases q : h.get? p.1 with
    | none => rfl
    | some o =>
      have := (N p hp).2.2
      rw [G, hideAll_get _ q c] at this
      cases this
theorem Aft.sub {h h' : Heap} {news n1 n2 : List (Addr × Obj)} (a : Aft h news h' n1) (hs : ∀ p ∈ n2, p ∈ n1) : Aft h news h' n2 := ⟨fun p hp => a.1 p (hs p hp), a.2⟩

theorem aft_back {h₀ h h' : Heap} {L : Addr} {m : Str → Option Value} {hid news news' : List (Addr × Obj)} (A : Aft h news h' news') (N : News h₀ L h hid) (N' : News h₀ L h' news') (hd : ∀ p ∈ hid, ∀ q ∈ news, p.1 ≠ q.1) :
    News h₀ L h' (hid ++ news') ∧ ∀ p ∈ hid, ∀ q ∈ news', p.1 ≠ q.1 := by
  have nm : ∀ p ∈ hid, p.1 ∉ news.map (·.1) := fun p hp hm => by
    obtain ⟨q, hq, e⟩ := List.mem_map.mp hm
    exact hd p hp q hq e.symm
  refine ⟨fun p hp => ?_, fun p hp q hq e => ?_⟩
  · rcases List.mem_append.mp hp with hp | hp
    · exact ⟨A.2 _ _ (N p hp).1 (nm p hp), (N p hp).2⟩
    · exact N' p hp
  · rcases A.1 q hq with h1 | h1
    · exact nm p hp (e ▸ h1)
    · rw [← e, (N p hp).1] at h1; cases h1
def Tell2 (w : World) (f : Addr) (args : List Value) (need : Nat) (news : List (Addr × Obj)) (R : Value → List (Addr × Obj) → Prop) : Prop :=
  ∀ (mean : ExcName → Option Value) (mg mb : Str → Option Value) (dp un : Nat) (gd : Option (List Code)) (cn : Str) (cs : Scope) (a : Addr) (ccd : Value) (cl : List (Str × Addr)) (outer : List Env) (A₀ : Around) (base h₀ : Heap) (L : Addr) (m : Str → Option Value) (s : Shared)
    (Q E : Value → Shared → Prop),
    Below A₀ base outer h₀ → Fr h₀ L s.heap m → (hd.heap_1 w.params).In h₀ → News h₀ L s.heap news → Top topProg lo mean mg mb h₀ → cs.kind = .function → dp + need ≤ 700 → un + 8 * need ≤ 7000 →
    (∀ r news' h' tk', Fr h₀ L h' m → News h₀ L h' news' → Aft s.heap news h' news' → R r news' → Q r { s with heap := h', toks := tk' }) →
    wpAny (model PySem.Challenge.rw_in0186_01.row.prog w) (ktrTop dp un gd cn cs L a ccd cl outer) (call (.ref f) args) Q E s
theorem tell2_call {w : World} {f : Addr} {args : List Value} {need : Nat} {news : List (Addr × Obj)} {R : Value → List (Addr × Obj) → Prop} (h : Tell2 w f args need news R)
    {mean : ExcName → Option Value} {mg mb : Str → Option Value} {dp un : Nat} {gd : Option (List Code)} {cn : Str} {cs : Scope} {a : Addr} {ccd : Value} {cl : List (Str × Addr)} {outer : List Env} {A₀ : Around} {base h₀ : Heap} {L : Addr} {m : Str → Option Value} {s : Shared} {Q E : Value → Shared → Prop}
    (B : Below A₀ base outer h₀) (F : Fr h₀ L s.heap m) (X : (hd.heap_1 w.params).In h₀) (N : News h₀ L s.heap news) (T : Top topProg lo mean mg mb h₀) (hk : cs.kind = .function) (hdp : dp + need ≤ 700) (hun : un + 8 * need ≤ 7000)
    (hq : ∀ r news' h' tk', Fr h₀ L h' m → News h₀ L h' news' → Aft s.heap news h' news' → R r news' → Q r { s with heap := h', toks := tk' }) :
    wpAny (model PySem.Challenge.rw_in0186_01.row.prog w) (ktrTop dp un gd cn cs L a ccd cl outer) (call (.ref f) args) Q E s := h mean mg mb dp un gd cn cs a ccd cl outer A₀ base h₀ L m s Q E B F X N T hk hdp hun hq

theorem tell2_aside {w : World} {f : Addr} {args : List Value} {need : Nat} {hid news : List (Addr × Obj)} {R : Value → List (Addr × Obj) → Prop} (h : Tell2 w f args need news R)
    {mean : ExcName → Option Value} {mg mb : Str → Option Value} {dp un : Nat} {gd : Option (List Code)} {cn : Str} {cs : Scope} {a : Addr} {ccd : Value} {cl : List (Str × Addr)} {outer : List Env} {A₀ : Around} {base h₀ : Heap} {L : Addr} {m : Str → Option Value} {s : Shared} {Q E : Value → Shared → Prop}
    (B : Below A₀ base outer h₀) (F : Fr h₀ L s.heap m) (X : (hd.heap_1 w.params).In h₀) (N : News h₀ L s.heap (hid ++ news)) (T : Top topProg lo mean mg mb h₀) (hk : cs.kind = .function) (hdp : dp + need ≤ 700) (hun : un + 8 * need ≤ 7000)
    (hd : ∀ p ∈ hid, ∀ q ∈ news, p.1 ≠ q.1)
    (hq : ∀ r news' h' tk', Fr h₀ L h' m → News h₀ L h' (hid ++ news') → (∀ p ∈ hid, ∀ q ∈ news', p.1 ≠ q.1) → R r news' → Q r { s with heap := h', toks := tk' }) :
    wpAny (model PySem.Challenge.rw_in0186_01.row.prog w) (ktrTop dp un gd cn cs L a ccd cl outer) (call (.ref f) args) Q E s := by
  refine tell2_call h B F X (fun p hp => N p (List.mem_append.mpr (.inr hp))) T hk hdp hun fun r news' h' tk' F' N' A' hR => ?_
  obtain ⟨n1, n2⟩ := aft_back (m := m) A' (fun p hp => N p (List.mem_append.mpr (.inl hp))) N' hd
  exact hq r news' h' tk' F' n1 n2 hR
section
variable {prog : Program} {w : World} {A₀ A : Around} {s : Shared} {base h₀ : Heap} {outer : List Env} {L : Addr} {m : Str → Option Value} {env : Env} {news : List (Addr × Obj)} {K : Frag} {p : Program} {loose : List Str} {mean : ExcName → Option Value} {mg mb : Str → Option Value}
  {R : Result → Shared → Prop} {name qual : Str} {params : Arguments} {body : List Stmt} {scope : Scope} {dV kV doc pm cdv ct oc : Value} {an od : Option Addr} {osl : Array (Option Value)} {f : Addr} {args : Args} {binds : List (Str × Value)}
theorem code_def2 (B : Below A₀ base outer h₀) (F : Fr h₀ L s.heap m) (X₀ : K.In h₀) (N : News h₀ L s.heap news) (T : Top p loose mean mg mb h₀) (hA : A.frames = some (env :: outer)) (hf : env.frame = some L) (hke : env.scope.kind = .function)
    (ho : K.lookup f = some ⟨oc, od, .func (fnOf name qual params body scope dV kV doc pm an cdv ct), osl⟩) (hcd : codeIn K cdv qual = true) (hroom : A.depth < recursionLimit)
    (hbind : BindsTo s (fnOf name qual params body scope dV kV doc pm an cdv ct) args binds) (hloc : ∀ y ∈ binds, scope.names.lookup y.1 = some .local)
    (h : ∀ g L' h₁, GOf g s.heap news → Fr h₀ L g m → Fr g L' h₁ (fun y => binds.reverse.lookup y) → News g L' h₁ news → Below A base (env :: outer) g → K.In g → Top p loose mean mg mb g →
      wpAny (model prog w) (A.deeper (envX qual scope L' f cdv [])) (execs body (envX qual scope L' f cdv []))
        (fun fl s' => LeaveK h₀ L m g R (match fl with | .ret v => v | _ => .none) s')
        (fun e s' => wpAny (model prog w) (A.deeper (envX qual scope L' f cdv [])) (leaving (envX qual scope L' f cdv []) e) (fun _ s'' => R (.error e) s'') (fun e' s'' => R (.error e') s'') s')
        { s with heap := h₁, toks := s.toks + binds.length })
    (hco : scope.isCoroutine = false) (hgen : scope.isGenerator = false) (hk : scope.kind = .function)
    (hcell : ∀ x ∈ scope.names, x.2 ≠ .cell) : codeAny (model prog w) A (.call (.ref f) args) R s := by
  obtain ⟨FG, BG, st, lv⟩ := groundX (R := R) B F N hA hf hke
  refine codeAny_call_def (fd := fnX name qual params body scope [] dV kV doc pm an cdv ct) (body := body) (binds := binds) hroom ((X₀.keeps F.keep) _ _ ho) rfl (T.nolimit.keeps F.keep) (codeRec_of (X₀.keeps F.keep) hcd) rfl hbind hcell hloc (fun h₁ hns hk₁ => ?_) hco hgen hk
  refine wpAny_mono (h _ s.heap.objs.size h₁ rfl FG ⟨hns, fun b o e => hk₁ b o (of_hideAll _ e), Nat.le_of_eq (hideAll_size _ _)⟩ (fun q hq => ?_) BG (X₀.keeps st) (T.keeps st)) (fun fl s' hl => lv _ _ hl) fun _ _ y => y
  have z := N q hq
  exact ⟨hk₁ _ _ z.1, Nat.ne_of_lt (Heap.lt_size z.1), hideAll_none _ (List.mem_map_of_mem hq)⟩
theorem code_defC2 (B : Below A₀ base outer h₀) (F : Fr h₀ L s.heap m) (X₀ : K.In h₀) (N : News h₀ L s.heap news) (T : Top p loose mean mg mb h₀) (hA : A.frames = some (env :: outer)) (hf : env.frame = some L) (hke : env.scope.kind = .function)
    (ho : K.lookup f = some ⟨oc, od, .func (fnOf name qual params body scope dV kV doc pm an cdv ct), osl⟩) (hcd : codeIn K cdv qual = true) (hroom : A.depth < recursionLimit)
    (hbind : BindsTo s (fnOf name qual params body scope dV kV doc pm an cdv ct) args binds) (hkind : (binds.all fun y => scope.names.lookup y.1 == some .local || scope.names.lookup y.1 == some .cell) = true)
    (hnd : ((cellsFrom 0 scope.names []).map (·.1)).Nodup)
    (h : ∀ g L' h₁ tk cells, GOf g s.heap news → Fr h₀ L g m → Fr g L' h₁ (bindL (envOfC qual scope L' f cdv).kindOf binds fun _ => none) → News g L' h₁ (cells ++ news) →
      CellsAre (bindC (envOfC qual scope L' f cdv).kindOf binds fun _ => none) (cellsFrom (L' + 1) scope.names []) cells → Below A base (env :: outer) g → K.In g → Top p loose mean mg mb g → (∀ p ∈ news, p.1 < L') →
      wpAny (model prog w) (A.deeper (envOfC qual scope L' f cdv)) (execs body (envOfC qual scope L' f cdv))
        (fun fl s' => LeaveK h₀ L m g R (match fl with | .ret v => v | _ => .none) s')
        (fun e s' => wpAny (model prog w) (A.deeper (envOfC qual scope L' f cdv)) (leaving (envOfC qual scope L' f cdv) e) (fun _ s'' => R (.error e) s'') (fun e' s'' => R (.error e') s'') s')
        { s with heap := h₁, toks := tk })
    (hco : scope.isCoroutine = false) (hgen : scope.isGenerator = false) (hk : scope.kind = .function) : codeAny (model prog w) A (.call (.ref f) args) R s := by
  obtain ⟨FG, BG, st, lv⟩ := groundX (R := R) B F N hA hf hke
  refine codeAny_call_function (fd := fnX name qual params body scope [] dV kV doc pm an cdv ct) hroom ((X₀.keeps F.keep) _ _ ho) rfl hco hgen rfl (codeRec_of (X₀.keeps F.keep) hcd) (hbind _ _ _ _ ?_)
  refine wpAny_newFunctionEnv_cells hk (kindsX hkind _) fun env' he s' x => ?_
  subst he
  refine ⟨(T.nolimit.keeps F.keep).keeps x.toInCall.keep, codeAny_func ?_⟩
  obtain ⟨h₁, tk, rfl, _⟩ := x.done
  have hk₁ := x.toInCall.keep
  obtain ⟨cells, NC, Y⟩ := Cl.news (h₀ := s.heap) (Nat.le_refl _) fun n c hm => ⟨x.cell n c (lookup_of_mem_nodup (cellsFrom_names scope.names 0 (s.heap.objs.size + 1) [] [] rfl ▸ hnd) hm), x.above n c hm⟩
  refine wpAny_mono (h _ s.heap.objs.size h₁ tk cells rfl FG ⟨x.toInCall.ns, fun b o e => hk₁ b o (of_hideAll _ e), Nat.le_of_eq (hideAll_size _ _)⟩ (fun q hq => ?_) Y BG (X₀.keeps st) (T.keeps st) (fun q hq => Heap.lt_size (N q hq).1)) (fun fl s' hl => lv _ _ hl) fun _ _ y => y
  rcases List.mem_append.mp hq with hq | hq
  · refine ⟨(NC q hq).1, (NC q hq).2.1, ?_⟩
    cases z : (hideAll s.heap (news.map (·.1))).get? q.1 with
    | none => rfl
    | some o => have := of_hideAll _ z; rw [(NC q hq).2.2] at this; cases this
  · exact ⟨hk₁ _ _ (N q hq).1, Nat.ne_of_lt (Heap.lt_size (N q hq).1), hideAll_none _ (List.mem_map_of_mem hq)⟩
end

theorem wp_hideE {α : Type} {M : Model} {A : Around} {t : Sem α} {Q : α → Shared → Prop} {E : Value → Shared → Prop} {s : Shared} (h : ∀ E', wpAny M A t Q E' s) : wpAny M A t Q E s := h E
theorem wp_hideP {α : Type} {M : Model} {A : Around} {t : Sem α} {Q : α → Shared → Prop} {E : Value → Shared → Prop} {s : Shared} (P : (Value → Shared → Prop) → Prop) (p : P E) (h : ∀ E', P E' → wpAny M A t Q E' s) : wpAny M A t Q E s := h E p
theorem upto10 (n : Nat) (h : n ≤ 10) : n = 0 ∨ n = 1 ∨ n = 2 ∨ n = 3 ∨ n = 4 ∨ n = 5 ∨ n = 6 ∨ n = 7 ∨ n = 8 ∨ n = 9 ∨ n = 10 := by
  have : ∀ n ≤ 10, n = 0 ∨ n = 1 ∨ n = 2 ∨ n = 3 ∨ n = 4 ∨ n = 5 ∨ n = 6 ∨ n = 7 ∨ n = 8 ∨ n = 9 ∨ n = 10 := by decide
  exact this n h
end
section
open PySem PySem.W PySem.Calls
open PyProof.Rows hiding wpAt wpAt_mono wpAt_bind wpAt_stack strKind
open PySem.W.X (Mem)
set_option Elab.async false
set_option maxRecDepth 100000
set_option maxHeartbeats 2000000
set_option pp.deepTerms false
set_option pp.maxSteps 3000
local macro_rules | `(tactic| walk_at "call ref") => `(tactic| (k_here; (with_reducible show wpAny _ _ (call (Value.ref 108) _) _ _ _); (refine' op_new ?A ?d ?u ?F ?X ?N ?T ?_; (case A => rfl); (case d => ktr_room); (case u => ktr_units); (case F => k_asm); (case X => k_asm); (case N => k_asm); (case T => k_asm)); intro bk' dk' h' tk' nx' F' N' S' l1'))
local macro_rules | `(tactic| walk_at "call builtin:len") => `(tactic| (k_here; (with_reducible show wpAny _ _ (call (Value.builtin "len") [Value.ref _]) _ _ _); (refine' len_list (items := List.toArray _) ?l ?z ?_; (case l => exact News.isL (by k_asm) (.tail _ (BookSt.oth (by assumption) (.tail _ (.tail _ (by assumption)))))); (case z => (simp only [List.size_toArray]; omega)))))
theorem run_spec (w : World) (rest : List (Addr × Obj)) (dl : Addr) (ds : List Deed) (u : Int) (tu : Tok) (hD : DeedsIn rest dl ds) (hlen : ds.length ≤ 10) (h100 : ∀ p ∈ rest, p.1 ≠ 100) (hu0 : 0 ≤ u) :
    Tell2 w 234 [.ref dl, .int u tu] 60 ((100, tabObj #[]) :: rest) (fun r news' => ∃ tup b sl d ep es sv sn o2 nx n, r = .ref tup ∧ RunSt w rest [] b d sl (runTo ds u ds.length).1 (runTo ds u ds.length).2 (decide (u < (ds.length : Int))) ep es sv sn o2 nx ∧ news' = (tup, ({ cls := .type "tuple", data := .seq #[.ref b, .ref sl] n } : Obj)) :: nx) := by
  obtain ⟨dvs, dn, hdl, hda⟩ := hD
  have hdlen := hda.length
  unfold Tell2
  k_fill
  intro mean mg mb dp un gd cn cs a ccd cl outer A₀ base h₀ L m s Q E B F X N T hk hdp hun hret
  refine wpAny_call ?_
  k_dflt (refine' code_def2 (binds := [(Str.ofString "deeds", .ref dl), (Str.ofString "until", .int u tu)]) ?k1 ?k2 ?k3 ?k4 ?k5 ?kA ?kF ?kK ?k6 ?k7 ?k8 ?k9 ?kB ?_ ?c2 ?c3 ?c4 ?c5; (case kA => exact rfl); (case kF => exact rfl); (case kK => first | assumption | exact rfl); (case k1 => k_asm); (case k2 => k_asm); (case k3 => k_asm); (case k4 => k_asm); (case k5 => k_asm); (case k6 => k_is); (case k7 => k_is); (case k8 => ktr_room); (case k9 => first | exact BindsTo.of_eq rfl | exact binds_K (by k_in) rfl (by k_is) rfl rfl rfl); (case c5 => decide); (case kB => exact locs rfl); (case c2 => exact rfl); (case c3 => exact rfl); (case c4 => exact rfl); k_whole; intro g' L' h' hG' FG' F' N' B' X' T'; (try dsimp only); (try k_fold))
  repeat' ((fail_if_success (with_reducible show wpAny _ _ (pyIter (Value.ref _)) _ _ _)); first | (k_unfold; (try dsimp only)) | (k_end; wrow_close) | ((fail_if_success (with_reducible show wpAny _ _ (subscriptTail _ (PySem.Expr.Slice _ _ _ _) _ _) _ _ _)); dsimp only; walk1) | walk1)
  rename BookSt w _ _ 0 [] _ _ => S0
  rename IsRange _ _ _ _ _ _ _ _ => hR
  rename Fr g' L' _ _ => FF
  rename News g' L' _ _ => NN
  rename (∀ q ∈ (100, tabObj #[]) :: rest, _) => l100
  rename (∀ p ∈ _, Prod.fst p < _) => lsl
  have hfr := fun q hq => Nat.ne_of_lt (lsl q hq)
  obtain ⟨n1, S1, hn1⟩ := S0.ext (x := (_, W.listOf #[] 0)) hfr
  have hdne := fun (q : Addr × Obj) (hq : q ∈ (100, tabObj #[]) :: rest) => (l100 q hq).2
  have hin0 : ∀ p ∈ (_, emptyDict) :: (100, tabObj #[]) :: rest, p.1 ≠ _ := fun p hp => hfr p (S0.oth hp)
  have R0 : RunSt w rest [] _ _ _ [] [] false 0 [] [] 0 _ n1 := ⟨S1, rfl, .nil, hin0, (fun p hp => nomatch hp), (fun p hp => nomatch hp), fun p hp => .tail _ (.tail _ hp), ⟨rest, fun p => Iff.rfl, Ne.symm (hdne _ (.head _)), fun p hp => ⟨hdne p (.tail _ hp), h100 p hp⟩⟩⟩
  have hsz : (dvs.toArray.size : Int) = (ds.length : Int) := by rw [List.size_toArray, hdlen]
  rw [hsz] at hR
  have hcases := upto10 _ hlen
  refine loop_range (n := ds.length) (news := n1) (RunJ w rest _ _ _ dl ds u tu) (by rfl) hR ?_ ?_ FF (fun p hp => NN p (hn1 p hp)) ⟨0, [], [], 0, _, (by rw [show decide (u < ((0 : Nat) : Int)) = false from decide_eq_false (by omega)]; exact R0), Nat.le_refl _, Nat.le_refl _, (by intro x hx; cases hx), rfl, rfl, rfl, rfl⟩ ?_ ?_
  · rcases hcases with e | e | e | e | e | e | e | e | e | e | e <;> rw [e] <;> rfl
  · rcases hcases with e | e | e | e | e | e | e | e | e | e | e <;> rw [e] <;> rfl
  · intro i ti m₁ nx h tk own hi hoff hJ F1 N1
    obtain ⟨ep, es, sv, sn, o2, R1, le1, le2, le3, md, mu, mk, ms⟩ := hJ
    obtain ⟨nx2, R, hsub⟩ := R1.withOwn hoff
    have N2 : News g' L' h nx2 := fun p hp => N1 p (hsub p hp)
    have F2 := fr_pin2 F1 ms
    have F3 := fr_pin2 F2 (x := Str.ofString "book") (by rw [if_neg (by decide)]; exact mk)
    have F4 := fr_pin2 F3 (x := Str.ofString "until") (v := .int u tu) (by rw [if_neg (by decide), if_neg (by decide)]; exact mu)
    have F5 := fr_pin2 F4 (x := Str.ofString "deeds") (by rw [if_neg (by decide), if_neg (by decide), if_neg (by decide)]; exact md)
    clear F2 F3 F4
    refine turn_spec w ⟨dvs, dn, hdl, hda⟩ hlen hu0 (fun p hp => ⟨hdne p (.tail _ hp), h100 p hp⟩) hi B' X' T' (by ktr_room) (by ktr_units) rfl R le1 le2 le3 F5 N2
  · intro m₁ nx h tk hJ F1 N1
    obtain ⟨ep, es, sv, sn, o2, R, le1, le2, le3, md, mu, mk, ms⟩ := hJ
    have F3 := fr_pin F1 ms
    have F4 := fr_pin F3 (x := Str.ofString "book") (by rw [if_neg (by decide)]; exact mk)
    clear N F lsl l100 NN FF hR hin0 hn1 S1 F1 F3 R0 S0
    repeat' (first | (k_unfold; (try dsimp only)) | (k_end; wrow_close) | ((fail_if_success (with_reducible show wpAny _ _ (subscriptTail _ (PySem.Expr.Slice _ _ _ _) _ _) _ _ _)); dsimp only; walk1) | walk1 | (leave1; walk_say "STEP leave1"; try dsimp only) | fail "no step")
    exact hret _ _ _ _ (by assumption) (by assumption) (aft_of hG' (by assumption) (by assumption)) ⟨_, _, _, _, _, _, _, _, _, _, _, rfl, R, rfl⟩
end
section
open PySem PySem.W PySem.Calls
open PyProof.Rows hiding wpAt wpAt_mono wpAt_bind wpAt_stack strKind
open PySem.W.X (Mem)
set_option Elab.async false
set_option maxRecDepth 100000
set_option maxHeartbeats 2000000
set_option pp.deepTerms false
set_option pp.maxSteps 3000
open LCg LCt
inductive ValsAre (F : Int → Value → Prop) : List Int → List Value → Prop
  | nil : ValsAre F [] []
  | cons {k : Int} {v : Value} {ks : List Int} {vs : List Value} : F k v → ValsAre F ks vs → ValsAre F (k :: ks) (v :: vs)
theorem ValsAre.snoc {F : Int → Value → Prop} {ks : List Int} {vs : List Value} {k : Int} {v : Value} (h : ValsAre F ks vs) (x : F k v) : ValsAre F (ks ++ [k]) (vs ++ [v]) := by
  induction h with
  | nil => exact .cons x .nil
  | cons y _ ih => exact .cons y ih
theorem ValsAre.ints {ks : List Int} {vs : List Value} (h : ValsAre (fun k v => ∃ t, v = .int k t) ks vs) : IntsAre vs ks := by
  induction h with
  | nil => exact .nil
  | cons x _ ih => obtain ⟨t, rfl⟩ := x; exact .cons _ t ih
theorem ValsAre.strs {f : Int → Str} {ks : List Int} {vs : List Value} (h : ValsAre (fun k v => ∃ t, v = .str (f k) t) ks vs) : StrsAre vs (ks.map f) := by
  induction h with
  | nil => exact .nil
  | cons x _ ih => obtain ⟨t, rfl⟩ := x; exact .cons _ t ih
theorem ValsAre.len {F : Int → Value → Prop} {ks : List Int} {vs : List Value} (h : ValsAre F ks vs) : vs.length = ks.length := by
  induction h with
  | nil => rfl
  | cons _ _ ih => rw [List.length_cons, List.length_cons, ih]
def CEl (F : Int → Value → Prop) (news : List (Addr × Obj)) (k : Int) (y : Value) (news' : List (Addr × Obj)) : Prop := news' = news ∧ F k y
section
variable {prog : Program} {w : World} {A : Around} {h₀ : Heap} {L : Addr} {m : Str → Option Value} {env : Env} {ct elt : Expr} {x : Str} {scope : Scope} {cl : List (Str × Addr)} {s : Shared} {S : List (Addr × Obj) → Prop} {P : Nat → Value → Prop} {Fin : List Value → List (Addr × Obj) → Prop} {news : List (Addr × Obj)}
theorem compT_ints {n : Nat} {ks : List Int} (p : Int → Bool) (F : Int → Value → Prop) (hks : ks.length = n) (hP : ∀ i v, i < n → P i v → ∃ k t, ks[i]? = some k ∧ v = .int k t)
    (turn : ∀ k t I oI C oC D m₂ ys h tk (E' : Value → Shared → Prop), k ∈ ks → LCg.NsObj oC m₂ → m₂ x = some (.int k t) → Fr h₀ L h m → News h₀ L h ((I, oI) :: (C, oC) :: (D, LCg.lst ys) :: news) → LCg.Off3 I C D news → ((@Ne Nat I C) ∧ (@Ne Nat I D) ∧ (@Ne Nat C D)) →
      wpAny (model prog w) A (isTrue ct (compEnvC scope cl C env) (eval ct (compEnvC scope cl C env))) (fun ok s' => ok = p k ∧ (if ok = true then
        wpAny (model prog w) A (eval elt (compEnvC scope cl C env)) (LCg.CompEnd h₀ L m { s with heap := h, toks := tk } I oI C oC D (LCg.lst ys) S (fun y news' => CEl F news k y news')) E' s'
        else LCg.CompEnd h₀ L m { s with heap := h, toks := tk } I oI C oC D (LCg.lst ys) S (fun _ news' => news' = news) Value.none s')) E' { s with heap := h, toks := tk })
    (fin : ∀ ys, ValsAre F (ks.filter p) ys → Fin ys news) : CompRestT prog w A h₀ L m env ct elt x scope cl s S P Fin n 0 [] news := by
  have key : ∀ (j i : Nat) (ys : List Value), i + j = n → ValsAre F ((ks.take i).filter p) ys → CompRestT prog w A h₀ L m env ct elt x scope cl s S P Fin j i ys news := by
    intro j
    induction j with
    | zero =>
      intro i ys hi hy
      have e : i = ks.length := by omega
      subst e
      rw [List.take_length] at hy
      exact CompRestT.zero (fin ys hy)
    | succ j ih =>
      intro i ys hi hy
      refine CompRestT.succ ?_
      intro v I oI C oC D m₂ h tk E' hv hC hx F' N off ne
      obtain ⟨k, t, hk, hv'⟩ := hP i v (by omega) hv
      rw [hv'] at hx
      refine wpAny_mono (turn k t I oI C oC D m₂ ys h tk E' (List.mem_of_getElem? hk) hC hx F' N off ne) (fun ok s₂ hq => ?_) fun _ _ e => e
      obtain ⟨hp, hq⟩ := hq
      cases ok with
      | true =>
        simp only [if_true] at hq ⊢
        refine wpAny_mono hq (fun y s₃ hq => ?_) fun _ _ e => e
        obtain ⟨h', tk', nw, e, F', N', off', hS, hn, hy'⟩ := hq
        rw [hn] at N' off' hS
        refine ⟨h', tk', news, e, F', N', off', hS, ?_⟩
        refine ih (i + 1) _ (by omega) ?_
        rw [List.take_add_one, hk, List.filter_append]
        simp only [Option.toList_some, List.filter_cons, ← hp, if_true, List.filter_nil]
        exact hy.snoc hy'
      | false =>
        simp only [Bool.false_eq_true, if_false] at hq ⊢
        obtain ⟨h', tk', nw, e, F', N', off', hS, hn⟩ := hq
        rw [hn] at N' off' hS
        refine ⟨h', tk', news, e, F', N', off', hS, ?_⟩
        refine ih (i + 1) _ (by omega) ?_
        rw [List.take_add_one, hk, List.filter_append]
        simp only [Option.toList_some, List.filter_cons, ← hp, Bool.false_eq_true, if_false, List.filter_nil, List.append_nil]
        exact hy
  exact key n 0 [] (by omega) (by simp only [List.take_zero, List.filter_nil]; exact .nil)
theorem compT_range {n : Nat} {a : Int} (p : Int → Bool) (F : Int → Value → Prop)
    (turn : ∀ k t I oI C oC D m₂ ys h tk (E' : Value → Shared → Prop), a ≤ k → k < a + (n : Int) → LCg.NsObj oC m₂ → m₂ x = some (.int k t) → Fr h₀ L h m → News h₀ L h ((I, oI) :: (C, oC) :: (D, LCg.lst ys) :: news) → LCg.Off3 I C D news → ((@Ne Nat I C) ∧ (@Ne Nat I D) ∧ (@Ne Nat C D)) →
      wpAny (model prog w) A (isTrue ct (compEnvC scope cl C env) (eval ct (compEnvC scope cl C env))) (fun ok s' => ok = p k ∧ (if ok = true then
        wpAny (model prog w) A (eval elt (compEnvC scope cl C env)) (LCg.CompEnd h₀ L m { s with heap := h, toks := tk } I oI C oC D (LCg.lst ys) S (fun y news' => CEl F news k y news')) E' s'
        else LCg.CompEnd h₀ L m { s with heap := h, toks := tk } I oI C oC D (LCg.lst ys) S (fun _ news' => news' = news) Value.none s')) E' { s with heap := h, toks := tk })
    (fin : ∀ ys, ValsAre F ((rangeKs a n).filter p) ys → Fin ys news) : CompRestT prog w A h₀ L m env ct elt x scope cl s S (fun i v => ∃ t, v = .int (a + (i : Int)) t) Fin n 0 [] news :=
  compT_ints (ks := rangeKs a n) p F (rangeKs_length a n) (fun i v hi hv => by
    obtain ⟨t, e⟩ := hv
    exact ⟨a + (i : Int), t, by simp [rangeKs, hi], e⟩)
    (fun k t I oI C oC D m₂ ys h tk E' hk => turn k t I oI C oC D m₂ ys h tk E' (mem_rangeKs hk).1 (mem_rangeKs hk).2) fin
theorem compT_list {vs : List Value} {ks : List Int} (p : Int → Bool) (F : Int → Value → Prop) (hi : IntsAre vs ks)
    (turn : ∀ k t I oI C oC D m₂ ys h tk (E' : Value → Shared → Prop), k ∈ ks → LCg.NsObj oC m₂ → m₂ x = some (.int k t) → Fr h₀ L h m → News h₀ L h ((I, oI) :: (C, oC) :: (D, LCg.lst ys) :: news) → LCg.Off3 I C D news → ((@Ne Nat I C) ∧ (@Ne Nat I D) ∧ (@Ne Nat C D)) →
      wpAny (model prog w) A (isTrue ct (compEnvC scope cl C env) (eval ct (compEnvC scope cl C env))) (fun ok s' => ok = p k ∧ (if ok = true then
        wpAny (model prog w) A (eval elt (compEnvC scope cl C env)) (LCg.CompEnd h₀ L m { s with heap := h, toks := tk } I oI C oC D (LCg.lst ys) S (fun y news' => CEl F news k y news')) E' s'
        else LCg.CompEnd h₀ L m { s with heap := h, toks := tk } I oI C oC D (LCg.lst ys) S (fun _ news' => news' = news) Value.none s')) E' { s with heap := h, toks := tk })
    (fin : ∀ ys, ValsAre F (ks.filter p) ys → Fin ys news) : CompRestT prog w A h₀ L m env ct elt x scope cl s S (fun i v => vs.toArray[i]? = some v) Fin vs.toArray.size 0 [] news :=
  compT_ints (ks := ks) p F (by rw [List.size_toArray]; exact hi.length.symm) (fun i v _ hv => by
    obtain ⟨k, t, e, hk⟩ := IntsAre.at hi i v (by simpa using hv)
    exact ⟨k, t, hk, e⟩) turn fin
end
end
section
open PySem PySem.W PySem.Calls
open PyProof.Rows hiding wpAt wpAt_mono wpAt_bind wpAt_stack strKind
open PySem.W.X (Mem)
set_option Elab.async false
set_option maxRecDepth 100000
set_option maxHeartbeats 2000000
set_option pp.deepTerms false
set_option pp.maxSteps 3000
open LCg LCt
def dN (ds : List Deed) (k : Int) : Str := match ds[k.toNat]? with | some D => D.n | none => PySem.Str.empty
def dK (ds : List Deed) (k : Int) : Int := match ds[k.toNat]? with | some D => D.k | none => 0
def dV (ds : List Deed) (k : Int) : Str := match ds[k.toNat]? with | some D => D.v | none => PySem.Str.empty
theorem dN_of {ds : List Deed} {k : Int} {D : Deed} (h : ds[k.toNat]? = some D) : dN ds k = D.n := by unfold dN; rw [h]
theorem dK_of {ds : List Deed} {k : Int} {D : Deed} (h : ds[k.toNat]? = some D) : dK ds k = D.k := by unfold dK; rw [h]
theorem dV_of {ds : List Deed} {k : Int} {D : Deed} (h : ds[k.toNat]? = some D) : dV ds k = D.v := by unfold dV; rw [h]
theorem deed_get {o : List (Addr × Obj)} {vs : List Value} {ds : List Deed} (h : DeedsAre o vs ds) {k : Int} (h0 : 0 ≤ k) (h1 : k < (ds.length : Int)) :
    ∃ D a t1 t2 t3 t4 n, ds[k.toNat]? = some D ∧ vs.toArray[k.toNat]? = some (.ref a) ∧ (a, ({ cls := .type "tuple", data := .seq #[.str D.n t1, .int D.k t2, .str D.v t3, .int D.p t4] n } : Obj)) ∈ o := by
  have hk : k.toNat < ds.length := by omega
  obtain ⟨v, hv, a, t1, t2, t3, t4, n, rfl, hm, _⟩ := h.get hk
  exact ⟨_, a, t1, t2, t3, t4, n, List.getElem?_eq_getElem hk, by simpa using hv, hm⟩
local macro_rules | `(tactic| k_all) => `(tactic| assumption)
theorem max_all {M k : Int} {l : List Int} (h1 : M ∈ [-1] ++ l) (h2 : ∀ a ∈ [-1] ++ l, a ≤ M) : decide (M < k) = (-1 :: l).all fun a => decide (a < k) := by
  by_cases c : M < k
  · rw [decide_eq_true c]
    symm
    rw [List.all_eq_true]
    intro a ha
    exact decide_eq_true (Int.lt_of_le_of_lt (h2 a ha) c)
  · rw [decide_eq_false c]
    symm
    rw [← Bool.not_eq_true, List.all_eq_true]
    intro h
    exact c (of_decide_eq_true (h M h1))
local macro_rules | `(tactic| bits_by_make) => `(tactic| first | assumption | exact List.Mem.head _ | (refine List.Mem.tail _ ?_; bits_by_make))
local macro_rules | `(tactic| walk_at "call builtin:len") => `(tactic| (k_here; (with_reducible show wpAny _ _ (call (Value.builtin "len") [Value.ref _]) _ _ _); (refine' len_list (items := List.toArray _) ?l ?z ?_; (case l => exact News.isL (by k_asm) (by bits_by_make)); (case z => (simp only [List.size_toArray]; omega)))))
local macro_rules | `(tactic| walk_at "subscriptTail") => `(tactic| (k_here; (with_reducible show wpAny _ _ (subscriptTail _ _ (Value.ref _) (Value.int _ _)) _ _ _); (first
  | (refine' item_list (items := List.toArray _) ?l ?a ?b ?c ?_; (case c => assumption); (case l => exact News.isL (by k_asm) (by bits_by_make)); (case a => omega); (case b => omega))
  | (refine' item_tupleT ?t ?a ?b ?c ?d ?_; (case t => exact News.isTup (by k_asm) (by bits_by_make)); (case a => decide); (case b => decide); (case c => rfl); (case d => rfl)))))
local macro_rules | `(tactic| walk_at "subscriptTail Name Constant ref int") => `(tactic| (k_here; (with_reducible show wpAny _ _ (subscriptTail _ _ (Value.ref _) (Value.int _ _)) _ _ _); (first
  | (refine' item_list (items := List.toArray _) ?l ?a ?b ?c ?_; (case c => assumption); (case l => exact News.isL (by k_asm) (by bits_by_make)); (case a => omega); (case b => omega))
  | (refine' item_tupleT ?t ?a ?b ?c ?d ?_; (case t => exact News.isTup (by k_asm) (by bits_by_make)); (case a => decide); (case b => decide); (case c => rfl); (case d => rfl)))))
local macro_rules | `(tactic| walk_at "subscriptTail Name Name ref int") => `(tactic| (k_here; (with_reducible show wpAny _ _ (subscriptTail _ _ (Value.ref _) (Value.int _ _)) _ _ _); (first
  | (refine' item_list (items := List.toArray _) ?l ?a ?b ?c ?_; (case c => assumption); (case l => exact News.isL (by k_asm) (by bits_by_make)); (case a => omega); (case b => omega))
  | (refine' item_tupleT ?t ?a ?b ?c ?d ?_; (case t => exact News.isTup (by k_asm) (by bits_by_make)); (case a => decide); (case b => decide); (case c => rfl); (case d => rfl)))))
local macro_rules | `(tactic| walk_at "subscriptTail Subscript Constant ref int") => `(tactic| (k_here; (with_reducible show wpAny _ _ (subscriptTail _ _ (Value.ref _) (Value.int _ _)) _ _ _); (first
  | (refine' item_list (items := List.toArray _) ?l ?a ?b ?c ?_; (case c => assumption); (case l => exact News.isL (by k_asm) (by bits_by_make)); (case a => omega); (case b => omega))
  | (refine' item_tupleT ?t ?a ?b ?c ?d ?_; (case t => exact News.isTup (by k_asm) (by bits_by_make)); (case a => decide); (case b => decide); (case c => rfl); (case d => rfl)))))
local macro_rules | `(tactic| walk_at "subscriptTail Subscript Name ref int") => `(tactic| (k_here; (with_reducible show wpAny _ _ (subscriptTail _ _ (Value.ref _) (Value.int _ _)) _ _ _); (first
  | (refine' item_list (items := List.toArray _) ?l ?a ?b ?c ?_; (case c => assumption); (case l => exact News.isL (by k_asm) (by bits_by_make)); (case a => omega); (case b => omega))
  | (refine' item_tupleT ?t ?a ?b ?c ?d ?_; (case t => exact News.isTup (by k_asm) (by bits_by_make)); (case a => decide); (case b => decide); (case c => rfl); (case d => rfl)))))
local macro_rules | `(tactic| walk_at "subscriptTail BinOp Constant ref int") => `(tactic| (k_here; (with_reducible show wpAny _ _ (subscriptTail _ _ (Value.ref _) (Value.int _ _)) _ _ _); (first
  | (refine' item_list (items := List.toArray _) ?l ?a ?b ?c ?_; (case c => assumption); (case l => exact News.isL (by k_asm) (by bits_by_make)); (case a => omega); (case b => omega))
  | (refine' item_tupleT ?t ?a ?b ?c ?d ?_; (case t => exact News.isTup (by k_asm) (by bits_by_make)); (case a => decide); (case b => decide); (case c => rfl); (case d => rfl)))))
local macro_rules | `(tactic| walk_at "eval ListComp") => `(tactic| (k_here; lct_look; k_dflt (refine LCt.ListComp_T (F₀ := by k_asm) (by with_unfolding_all rfl) (by decide) (by rfl) (by decide) (by rfl) ?_)))
local macro_rules | `(tactic| walk_at "exec Assign cons ListComp") => `(tactic| (k_here; lct_look; k_dflt (refine LCt.Assign_ListComp_T (F₀ := by k_asm) (by rfl) (by with_unfolding_all rfl) (by with_unfolding_all rfl) (by decide) (by rfl) (by decide) (by rfl) (by rfl) (by rfl) ?_)))
def since0S (ds : List Deed) (n : Str) : List Int := (rangeKs 0 ds.length).filter fun k => decide (dN ds k = n)
def outsS (ds : List Deed) (n : Str) : List Int := (since0S ds n).filter fun k => decide (dK ds k = 5)
def sinceS (ds : List Deed) (n : Str) : List Int := (since0S ds n).filter fun k => (-1 :: outsS ds n).all fun a => decide (a < k)
def makS (ds : List Deed) (n : Str) (u : Int) : List Int := (sinceS ds n).filter fun k => decide (k < u) || decide (dK ds k = 4)
def underS (ds : List Deed) (n : Str) (u : Int) : List (Int × Str × List Str) := match makS ds n u with
  | [] => []
  | k0 :: _ => [(k0, n, ((sinceS ds n).filter fun k => decide (k0 ≤ k) && decide (dK ds k ≠ 3)).map (dV ds))]
def RowIn (o : List (Addr × Obj)) (v : Value) (r : Int × Str × List Str) : Prop := ∃ a t1 t2 la k, v = .ref a ∧ (a, ({ cls := .type "tuple", data := .seq #[.int r.1 t1, .str r.2.1 t2, .ref la] k } : Obj)) ∈ o ∧ TxtAt o (.ref la) r.2.2
inductive RowsAre (o : List (Addr × Obj)) : List Value → List (Int × Str × List Str) → Prop
  | nil : RowsAre o [] []
  | cons {v : Value} {r : Int × Str × List Str} {vs : List Value} {rs : List (Int × Str × List Str)} : RowIn o v r → RowsAre o vs rs → RowsAre o (v :: vs) (r :: rs)
def UnderIn (o : List (Addr × Obj)) (r : Value) (rs : List (Int × Str × List Str)) : Prop := ∃ l vs n, r = .ref l ∧ (l, listOf vs.toArray n) ∈ o ∧ RowsAre o vs rs
theorem under_out {h₀ h : Heap} {L : Addr} {m : Str → Option Value} {Q : Value → Shared → Prop} {s : Shared} {rest tail : List (Addr × Obj)} {rows : List (Int × Str × List Str)} {lA tA D5 : Addr} {k0 : Int} {n : Str} {t0 tn : Tok} {ys5 : List Value} {vals : List Str} {tk : Nat}
    (hret : ∀ (r : Value) (news' : List (Addr × Obj)) (h' : Heap) (tk' : Nat), Fr h₀ L h' m → News h₀ L h' news' → Aft s.heap rest h' news' → (fun r news' => ∃ own, news' = own ++ rest ∧ UnderIn news' r rows) r news' → Q r { s with heap := h', toks := tk' })
    {g' : Heap} {L' : Addr} {m' : Str → Option Value} (hG : GOf g' s.heap rest) (gF : Fr g' L' h m') (gN : News g' L' h ((lA, W.listOf #[Value.ref tA] 0) :: (tA, ({ cls := .type "tuple", data := .seq #[Value.int k0 t0, Value.str n tn, Value.ref D5] } : Obj)) :: (D5, lst ys5) :: tail))
    (kF : Fr h₀ L h m) (kN : News h₀ L h ((lA, W.listOf #[Value.ref tA] 0) :: (tA, ({ cls := .type "tuple", data := .seq #[Value.int k0 t0, Value.str n tn, Value.ref D5] } : Obj)) :: (D5, lst ys5) :: tail)) (hsub : ∀ p ∈ rest, p ∈ tail)
    (hu : rows = [(k0, n, vals)]) (hS : StrsAre ys5 vals) : Q (.ref lA) { s with heap := h, toks := tk } := by
  have hall : ∀ p ∈ (lA, W.listOf [Value.ref tA].toArray 0) :: (tA, ({ cls := .type "tuple", data := .seq #[Value.int k0 t0, Value.str n tn, Value.ref D5] } : Obj)) :: (D5, lst ys5) :: rest, p ∈ (lA, W.listOf #[Value.ref tA] 0) :: (tA, ({ cls := .type "tuple", data := .seq #[Value.int k0 t0, Value.str n tn, Value.ref D5] } : Obj)) :: (D5, lst ys5) :: tail := by
    intro p hp
    rcases List.mem_cons.mp hp with rfl | hp
    · exact .head _
    · rcases List.mem_cons.mp hp with rfl | hp
      · exact .tail _ (.head _)
      · rcases List.mem_cons.mp hp with rfl | hp
        · exact .tail _ (.tail _ (.head _))
        · exact .tail _ (.tail _ (.tail _ (hsub p hp)))
  refine hret _ ((lA, W.listOf [Value.ref tA].toArray 0) :: (tA, ({ cls := .type "tuple", data := .seq #[Value.int k0 t0, Value.str n tn, Value.ref D5] } : Obj)) :: (D5, lst ys5) :: rest) h tk kF (fun p hp => kN p (hall p hp)) ((aft_of hG gF gN).sub hall) ⟨[_, _, _], rfl, lA, [Value.ref tA], 0, rfl, .head _, ?_⟩
  · rw [hu]
    exact .cons ⟨tA, t0, tn, D5, 0, rfl, .tail _ (.head _), D5, ys5, ys5.length, rfl, .tail _ (.tail _ (.head _)), hS⟩ .nil
theorem under_spec (w : World) (rest : List (Addr × Obj)) (dl : Addr) (ds : List Deed) (n : Str) (u : Int) (tn tu : Tok) (hD : DeedsIn rest dl ds) (hlen : ds.length ≤ 10) :
    Tell2 w 239 [.ref dl, .str n tn, .int u tu] 60 rest (fun r news' => ∃ own, news' = own ++ rest ∧ UnderIn news' r (underS ds n u)) := by
  obtain ⟨dvs, dn, hdl, hda⟩ := hD
  have hdlen := hda.length
  unfold Tell2
  k_fill
  intro mean mg mb dp un gd cn cs a ccd cl outer A₀ base h₀ L m s Q E B F X N T hk hdp hun hret
  refine wpAny_call ?_
  k_dflt (refine' code_defC2 (binds := [(Str.ofString "deeds", .ref dl), (Str.ofString "name", .str n tn), (Str.ofString "until", .int u tu)]) ?k1 ?k2 ?k3 ?k4 ?k5 ?kA ?kF ?kK ?k6 ?k7 ?k8 ?k9 ?kB ?kD ?_ ?c2 ?c3 ?c4; (case kA => exact rfl); (case kF => exact rfl); (case kK => first | assumption | exact rfl); (case k1 => k_asm); (case k2 => k_asm); (case k3 => k_asm); (case k4 => k_asm); (case k5 => k_asm); (case k6 => k_is); (case k7 => k_is); (case k8 => ktr_room); (case k9 => first | exact BindsTo.of_eq rfl | exact binds_K (by k_in) rfl (by k_is) rfl rfl rfl); (case kB => exact rfl); (case kD => decide +kernel); (case c2 => exact rfl); (case c3 => exact rfl); (case c4 => exact rfl); k_whole; intro g' L' h' tk' cells' hG' FG' F' N' Y' B' X' T' l1; k_cells Y'; (try simp only [List.cons_append, List.nil_append] at N'); (try dsimp only); (try k_fold))
  refine wp_hideE fun E9 => ?_
  have hc4 : ∀ p ∈ rest, p.1 ≠ L' + 1 + 1 + 1 + 1 := fun p hp => Nat.ne_of_lt (Nat.lt_succ_of_lt (Nat.lt_succ_of_lt (Nat.lt_succ_of_lt (Nat.lt_succ_of_lt (l1 p hp)))))
  have hc5 : ∀ p ∈ rest, p.1 ≠ L' + 1 + 1 + 1 + 1 + 1 := fun p hp => Nat.ne_of_lt (Nat.lt_succ_of_lt (Nat.lt_succ_of_lt (Nat.lt_succ_of_lt (Nat.lt_succ_of_lt (Nat.lt_succ_of_lt (l1 p hp))))))
  have hsz : (dvs.toArray.size : Int) = (ds.length : Int) := by rw [List.size_toArray, hdlen]
  have hcases := upto10 _ hlen
  repeat' ((fail_if_success (with_reducible show LCt.CompSrcT _ _ _ _ _ _ _ _ _ _ _ _ _ _ _)); first | (k_unfold; (try dsimp only)) | (k_end; wrow_close) | (dsimp only; walk1) | walk1)
  rename IsRange _ _ _ _ _ _ _ _ => hR
  rw [hsz] at hR
  refine CompSrcT.range (n := ds.length) (by rfl) (by k_asm) (by k_asm) hR ?_ ?_ (by rw [sizeLine_eq]; omega) ?_
  · rcases hcases with e | e | e | e | e | e | e | e | e | e | e <;> rw [e] <;> rfl
  · rcases hcases with e | e | e | e | e | e | e | e | e | e | e <;> rw [e] <;> rfl
  intro g9
  refine compT_range (fun k => decide (dN ds k = n)) (fun k v => ∃ t, v = .int k t) ?_ ?_
  · intro k t I oI C oC D m₂ ys h tk E' h0 h1 hC hx F9 N9 off ne
    obtain ⟨De, ta, t1, t2, t3, t4, tn9, e1, e2, e3⟩ := deed_get hda h0 (by omega)
    rw [dN_of e1]
    clear hR N F hret
    repeat' (first | (k_unfold; (try dsimp only)) | (k_end; wrow_close) | (dsimp only; walk1) | walk1)
    · exact ⟨h, _, _, rfl, F9, N9, off, trivial, rfl, _, rfl⟩
    · exact ⟨h, _, _, rfl, F9, N9, off, trivial, rfl⟩
  intro ys hys
  have hI1 := hys.ints
  have hl1 := hys.len
  have hr1 : ((rangeKs 0 ds.length).filter fun k => decide (dN ds k = n)).length ≤ 10 := Nat.le_trans (List.length_filter_le _ _) (by rw [rangeKs_length]; exact hlen)
  have hmem1 : ∀ k ∈ (rangeKs 0 ds.length).filter fun k => decide (dN ds k = n), 0 ≤ k ∧ k < (ds.length : Int) := fun k hk => by
    have := mem_rangeKs (List.mem_filter.mp hk).1
    omega
  generalize hs0 : ((rangeKs 0 ds.length).filter fun k => decide (dN ds k = n)) = since0 at hI1 hl1 hr1 hmem1
  clear hys hR
  intro D1 h1 tk1 F1 N1 off1
  repeat' ((fail_if_success (with_reducible show LCt.CompSrcT _ _ _ _ _ _ _ _ _ _ _ _ _ _ _)); first | (k_unfold; (try dsimp only)) | (k_end; wrow_close) | (dsimp only; walk1) | walk1)
  refine CompSrcT.ledger (its := ys.toArray) (k := ys.length) (by rfl) (by k_asm) (by k_asm) (by bits_by_make) (by rw [sizeLine_eq, List.size_toArray]; omega) ?_
  intro g9
  refine compT_list (fun k => decide (dK ds k = 5)) (fun k v => ∃ t, v = .int k t) hI1 ?_ ?_
  · intro k t I oI C oC D m₂ ys2 h tk E' hk hC hx F9 N9 off ne
    obtain ⟨h0, h1⟩ := hmem1 k hk
    obtain ⟨De, ta, t1, t2, t3, t4, tn9, e1, e2, e3⟩ := deed_get hda h0 (by omega)
    rw [dK_of e1]
    clear N F hret F1 N1
    repeat' (first | (k_unfold; (try dsimp only)) | (k_end; wrow_close) | (dsimp only; walk1) | walk1)
    · exact ⟨h, _, _, rfl, F9, N9, off, .inr ⟨_, .head _, rfl, _, rfl⟩, rfl, _, rfl⟩
    · exact ⟨h, _, _, rfl, F9, N9, off, .inr ⟨_, .head _, rfl, _, rfl⟩, rfl⟩
  intro ys2 hys2
  have hI2 := hys2.ints
  have hl2 := hys2.len
  have hr2 : (since0.filter fun k => decide (dK ds k = 5)).length ≤ 10 := Nat.le_trans (List.length_filter_le _ _) hr1
  generalize hs2 : (since0.filter fun k => decide (dK ds k = 5)) = outs0 at hI2 hl2 hr2
  clear hys2
  intro D2 h2 tk2 F2 N2 off2
  clear F1 N1
  repeat' ((fail_if_success (with_reducible show LCt.CompSrcT _ _ _ _ _ _ _ _ _ _ _ _ _ _ _)); first | (k_unfold; (try dsimp only)) | (k_end; wrow_close) | (dsimp only; walk1) | walk1)
  simp only [LCg.Off1, and_true] at off1 off2
  have qa1 : D1 ≠ L' + 1 + 1 + 1 + 1 := off1.2.1.symm
  have qa2 : D2 ≠ L' + 1 + 1 + 1 + 1 := off2.2.2.1.symm
  repeat' ((fail_if_success (with_reducible show LCt.CompSrcT _ _ _ _ _ _ _ _ _ _ _ _ _ _ _)); first | (k_unfold; (try dsimp only)) | (k_end; wrow_close) | (dsimp only; walk1) | walk1)
  repeat' ((fail_if_success (with_reducible show LCt.CompSrcT _ _ _ _ _ _ _ _ _ _ _ _ _ _ _)); first | (k_unfold; (try dsimp only)) | (k_end; wrow_close) | (dsimp only; walk1) | walk1)
  refine CompSrcT.ledger (its := ys.toArray) (k := ys.length) (by rfl) (by k_asm) (by k_asm) (by bits_by_make) (by rw [sizeLine_eq, List.size_toArray]; omega) ?_
  intro g9
  refine compT_list (fun k => (-1 :: outs0).all fun a => decide (a < k)) (fun k v => ∃ t, v = .int k t) hI1 ?_ ?_
  · intro k t I oI C oC D m₂ ys3 h tk E' hk hC hx F9 N9 off ne
    clear hret
    repeat' (first | (k_unfold; (try dsimp only)) | (k_end; wrow_close) | (dsimp only; walk1) | walk1)
    · exact max_all (by assumption) (by assumption)
    · rename News g' L' _ (_ :: _ :: (I, oI) :: _) => NN
      rename Fr g' L' _ _ => FF
      exact ⟨_, _, _, rfl, FF, fun p hp => NN p (.tail _ (.tail _ hp)), off, .inr ⟨_, .tail _ (.head _), rfl, _, rfl⟩, rfl, _, rfl⟩
    · rename News g' L' _ (_ :: _ :: (I, oI) :: _) => NN
      rename Fr g' L' _ _ => FF
      exact ⟨_, _, _, rfl, FF, fun p hp => NN p (.tail _ (.tail _ hp)), off, .inr ⟨_, .tail _ (.head _), rfl, _, rfl⟩, rfl⟩
  intro ys3 hys3
  have hI3 := hys3.ints
  have hl3 := hys3.len
  have hr3 : (since0.filter fun k => (-1 :: outs0).all fun a => decide (a < k)).length ≤ 10 := Nat.le_trans (List.length_filter_le _ _) hr1
  have hmem3 : ∀ k ∈ since0.filter fun k => (-1 :: outs0).all fun a => decide (a < k), 0 ≤ k ∧ k < (ds.length : Int) := fun k hk => hmem1 k (List.mem_filter.mp hk).1
  generalize hs3 : (since0.filter fun k => (-1 :: outs0).all fun a => decide (a < k)) = sin0 at hI3 hl3 hr3 hmem3
  clear hys3
  intro D3 h3 tk3 F3 N3 off3
  simp only [LCg.Off1, and_true] at off3
  repeat' ((fail_if_success (with_reducible show LCt.CompSrcT _ _ _ _ _ _ _ _ _ _ _ _ _ _ _)); first | (k_unfold; (try dsimp only)) | (k_end; wrow_close) | (dsimp only; walk1) | walk1)
  refine CompSrcT.ledger (its := ys3.toArray) (k := ys3.length) (by rfl) (by k_asm) (by k_asm) (by bits_by_make) (by rw [sizeLine_eq, List.size_toArray]; omega) ?_
  intro g9
  refine compT_list (fun k => decide (k < u) || decide (dK ds k = 4)) (fun k v => ∃ t, v = .int k t) hI3 ?_ ?_
  · intro k t I oI C oC D m₂ ys4 h tk E' hk hC hx F9 N9 off ne
    obtain ⟨h0, h1⟩ := hmem3 k hk
    obtain ⟨De, ta, t1, t2, t3, t4, tn9, e1, e2, e3⟩ := deed_get hda h0 (by omega)
    rw [dK_of e1]
    clear N F hret F3 N3
    repeat' (first | (k_unfold; (try dsimp only)) | (k_end; wrow_close) | (dsimp only; walk1) | walk1)
    all_goals first
      | (simp [*]; done)
      | exact ⟨h, _, _, rfl, F9, N9, off, .inr ⟨_, .head _, rfl, _, rfl⟩, rfl, _, rfl⟩
      | exact ⟨h, _, _, rfl, F9, N9, off, .inr ⟨_, .head _, rfl, _, rfl⟩, rfl⟩
  intro ys4 hys4
  have hI4 := hys4.ints
  have hl4 := hys4.len
  have hr4 : (sin0.filter fun k => decide (k < u) || decide (dK ds k = 4)).length ≤ 10 := Nat.le_trans (List.length_filter_le _ _) hr3
  generalize hs4 : (sin0.filter fun k => decide (k < u) || decide (dK ds k = 4)) = mak0 at hI4 hl4 hr4
  clear hys4
  intro D4 h4 tk4 F4 N4 off4
  simp only [LCg.Off1, and_true] at off4
  have qb1 : D1 ≠ L' + 1 + 1 + 1 + 1 + 1 := off1.1.symm
  have qb2 : D2 ≠ L' + 1 + 1 + 1 + 1 + 1 := off2.2.1.symm
  have qb3 : D3 ≠ L' + 1 + 1 + 1 + 1 + 1 := off3.2.2.1.symm
  have qb4 : D4 ≠ L' + 1 + 1 + 1 + 1 + 1 := off4.2.2.2.1.symm
  clear F3 N3
  repeat' ((fail_if_success (with_reducible show LCt.CompSrcT _ _ _ _ _ _ _ _ _ _ _ _ _ _ _)); (fail_if_success (with_reducible show wpAny _ _ (subscriptTail _ _ _ _) _ _ _)); first | (k_unfold; (try dsimp only)) | (k_end; wrow_close) | (dsimp only; walk1) | walk1)
  · rename decide _ = true => hdm
    have hm0 : mak0 = [] := of_decide_eq_true hdm
    have hu : underS ds n u = [] := by unfold underS makS sinceS outsS since0S; rw [hs0, hs2, hs3, hs4, hm0]
    rename Fr h₀ L _ m => kF
    rename News h₀ L _ _ => kN
    rename Fr g' L' _ _ => gF
    rename News g' L' _ ((_, W.listOf #[] 0) :: _) => gN
    refine hret _ ((_, W.listOf [].toArray 0) :: rest) _ _ kF (fun p hp => kN p ?_) ((aft_of hG' gF gN).sub ?_) ⟨[_], rfl, _, [], 0, rfl, .head _, by rw [hu]; exact .nil⟩
    · rcases List.mem_cons.mp hp with rfl | hp
      · exact .head _
      · bits_by_make
    · intro p hp
      rcases List.mem_cons.mp hp with rfl | hp
      · exact .head _
      · bits_by_make
  · rename decide _ = false => hdm
    have hm0 : mak0 ≠ [] := of_decide_eq_false hdm
    obtain ⟨k0, mr, hm1⟩ : ∃ k0 mr, mak0 = k0 :: mr := by cases mak0 with | nil => exact absurd rfl hm0 | cons a b => exact ⟨a, b, rfl⟩
    obtain ⟨t0, hit⟩ := hI4.get 0 k0 (by rw [hm1]; rfl)
    have hit' : ys4.toArray[(0 : Int).toNat]? = some (.int k0 t0) := by simpa using hit
    have hu : underS ds n u = [(k0, n, (sin0.filter fun k => decide (k0 ≤ k) && decide (dK ds k ≠ 3)).map (dV ds))] := by unfold underS makS sinceS outsS since0S; rw [hs0, hs2, hs3, hs4, hm1]
    repeat' ((fail_if_success (with_reducible show LCt.CompSrcT _ _ _ _ _ _ _ _ _ _ _ _ _ _ _)); first | (k_unfold; (try dsimp only)) | (k_end; wrow_close) | (dsimp only; walk1) | walk1)
    refine CompSrcT.ledger (its := ys3.toArray) (k := ys3.length) (by rfl) (by k_asm) (by k_asm) (by bits_by_make) (by rw [sizeLine_eq, List.size_toArray]; omega) ?_
    intro g9
    refine compT_list (fun k => decide (k0 ≤ k) && decide (dK ds k ≠ 3)) (fun k v => ∃ t, v = .str (dV ds k) t) hI3 ?_ ?_
    · intro k t I oI C oC D m₂ ys5 h tk E' hk hC hx F9 N9 off ne
      obtain ⟨h0, h1⟩ := hmem3 k hk
      obtain ⟨De, ta, t1, t2, t3, t4, tn9, e1, e2, e3⟩ := deed_get hda h0 (by omega)
      rw [dK_of e1]
      clear N F hret
      repeat' (first | (k_unfold; (try dsimp only)) | (k_end; wrow_close) | (dsimp only; walk1) | walk1)
      all_goals first
        | (simp [*]; done)
        | exact ⟨h, _, _, rfl, F9, N9, off, .inr ⟨_, by bits_by_make, rfl, _, rfl⟩, rfl, _, by rw [dV_of e1]⟩
        | exact ⟨h, _, _, rfl, F9, N9, off, .inr ⟨_, by bits_by_make, rfl, _, rfl⟩, rfl⟩
    intro ys5 hys5
    have hS5 := hys5.strs
    intro D5 h5 tk5 F5 N5 off5
    repeat' (first | (k_unfold; (try dsimp only)) | (k_end; wrow_close) | (dsimp only; walk1) | walk1)
    rename Fr h₀ L _ m => kF
    rename News h₀ L _ ((_, W.listOf #[Value.ref _] 0) :: _) => kN
    rename Fr g' L' _ _ => gF
    rename News g' L' _ ((_, W.listOf #[Value.ref _] 0) :: _) => gN
    exact under_out hret hG' gF gN kF kN (fun p hp => by bits_by_make) hu hS5
end
section
open PySem PySem.W PySem.Calls
open PyProof.Rows hiding wpAt wpAt_mono wpAt_bind wpAt_stack strKind
open PySem.W.X (Mem)
set_option Elab.async false
set_option maxRecDepth 100000
set_option maxHeartbeats 2000000
set_option pp.deepTerms false
set_option pp.maxSteps 3000
open LCg

structure CpAd (h₀ : Heap) (L ax I C D : Addr) : Prop where
  il : I ≠ L
  cl : C ≠ L
  dl : D ≠ L
  i0 : h₀.get? I = none
  c0 : h₀.get? C = none
  d0 : h₀.get? D = none
  dc : D ≠ C
  id : I ≠ D
  ic : I ≠ C
  ac : ax ≠ C
  ad : ax ≠ D
structure Cp (h₀ : Heap) (L : Addr) (m : Str → Option Value) (its : Array Value) (ax I C D : Addr) (J : Nat → List Value → List (Addr × Obj) → Prop) (n i : Nat) (h : Heap) (ys : List Value) (nw : List (Addr × Obj)) (m' : Str → Option Value) : Prop where
  it : h.IsListIter I ax n
  ls : h.IsList ax its
  fr : Fr h₀ L h m
  ns : h.Ns C m'
  nws : News h₀ L h ((D, lst ys) :: nw)
  off : Off3 I C D nw
  src : SrcAt h₀ ax its nw
  j : J i ys nw
inductive CpI (s₁ : Shared) (h₀ : Heap) (L : Addr) (m : Str → Option Value) (its : Array Value) (ax I C D : Addr) (J : Nat → List Value → List (Addr × Obj) → Prop) : Nat → Shared → Prop
  | mk {h : Heap} {tk i : Nat} {ys : List Value} {nw : List (Addr × Obj)} {m' : Str → Option Value} : i ≤ its.size → ys.length ≤ i → Cp h₀ L m its ax I C D J i i h ys nw m' → CpI s₁ h₀ L m its ax I C D J (its.size + 1 - i) { s₁ with heap := h, toks := tk }
section
variable {h₀ h h' : Heap} {L ax I C D : Addr} {m m' m₂ : Str → Option Value} {its : Array Value} {J : Nat → List Value → List (Addr × Obj) → Prop} {n i : Nat} {ys : List Value} {nw : List (Addr × Obj)}
theorem Cp.keeps (c : Cp h₀ L m its ax I C D J n i h ys nw m') (k : ∀ b o, h.get? b = some o → h'.get? b = some o) : Cp h₀ L m its ax I C D J n i h' ys nw m' :=
  ⟨c.it.at fun o e => k _ o e, c.ls.at fun o e => k _ o e, c.fr.keeps k, c.ns.at' fun o e => k _ o e, c.nws.grown k, c.off, c.src, c.j⟩
theorem Cp.offD (c : Cp h₀ L m its ax I C D J n i h ys nw m') (a : CpAd h₀ L ax I C D) : ∀ p ∈ (D, lst ys) :: nw, p.1 ≠ C := fun p hp => by
  rcases List.mem_cons.mp hp with rfl | hp
  · exact a.dc
  · exact (c.off.mem p hp).2.1
theorem Cp.offI (c : Cp h₀ L m its ax I C D J n i h ys nw m') (a : CpAd h₀ L ax I C D) : ∀ p ∈ (D, lst ys) :: nw, p.1 ≠ I := fun p hp => by
  rcases List.mem_cons.mp hp with rfl | hp
  · exact a.id.symm
  · exact (c.off.mem p hp).1
theorem Cp.set (c : Cp h₀ L m its ax I C D J n i h ys nw m') (a : CpAd h₀ L ax I C D) (hn : h'.Ns C m₂) (hs : Heap.SameBut C h h') : Cp h₀ L m its ax I C D J n i h' ys nw m₂ :=
  ⟨c.it.at fun o e => hs.extBut _ o a.ic e, c.ls.at fun o e => hs.extBut _ o a.ac e, c.fr.change hs a.cl a.c0, hn, fun p hp => ⟨hs.extBut _ _ (c.offD a p hp) (c.nws p hp).1, (c.nws p hp).2⟩, c.off, c.src, c.j⟩
theorem Cp.full (c : Cp h₀ L m its ax I C D J n i h ys nw m') (a : CpAd h₀ L ax I C D) : ∃ oI oC, NsObj oC m' ∧ (∀ g : Heap, g.get? I = some oI → g.IsListIter I ax n) ∧ News h₀ L h ((I, oI) :: (C, oC) :: (D, lst ys) :: nw) := by
  obtain ⟨oI, eI, hI⟩ := c.it
  obtain ⟨oC, eC, hC⟩ := ns_obj c.ns
  refine ⟨oI, oC, hC, fun g e => ⟨oI, e, hI⟩, fun p hp => ?_⟩
  rcases List.mem_cons.mp hp with rfl | hp
  · exact ⟨eI, a.il, a.i0⟩
  · rcases List.mem_cons.mp hp with rfl | hp
    · exact ⟨eC, a.cl, a.c0⟩
    · exact c.nws p hp
theorem cp_next {s₁ : Shared} {oI oC : Obj} {tk : Nat} (hlt : i < its.size) (hy : ys.length ≤ i + 1) (hC : NsObj oC m') (hI : ∀ g : Heap, g.get? I = some oI → g.IsListIter I ax (i + 1))
    (F : Fr h₀ L h m) (N : News h₀ L h ((I, oI) :: (C, oC) :: (D, lst ys) :: nw)) (off : Off3 I C D nw) (S : SrcAt h₀ ax its nw) (j : J (i + 1) ys nw) :
    ∃ k, k < its.size + 1 - i ∧ CpI s₁ h₀ L m its ax I C D J k { s₁ with heap := h, toks := tk } :=
  ⟨its.size + 1 - (i + 1), Nat.sub_lt_sub_left (Nat.lt_succ_of_lt hlt) (Nat.lt_succ_self i), .mk hlt hy ⟨hI _ (N _ (.head _)).1, S.list F.keep fun p hp => N p (.tail _ (.tail _ (.tail _ hp))), F, hC.ns (N _ (.tail _ (.head _))).1, fun p hp => N p (.tail _ (.tail _ hp)), off, S, j⟩⟩
theorem cp_append {prog : Program} {w : World} {A : Around} {s₁ : Shared} {oI oC : Obj} {tk : Nat} {y : Value} {E : Value → Shared → Prop} (a : CpAd h₀ L ax I C D) (hsz : its.size ≤ sizeLine) (hlt : i < its.size) (hy : ys.length ≤ i) (hC : NsObj oC m') (hI : ∀ g : Heap, g.get? I = some oI → g.IsListIter I ax (i + 1))
    (F : Fr h₀ L h m) (N : News h₀ L h ((I, oI) :: (C, oC) :: (D, lst ys) :: nw)) (off : Off3 I C D nw) (S : SrcAt h₀ ax its nw) (j : J (i + 1) (ys ++ [y]) nw) :
    wpAny (model prog w) A (call (.builtin "list.append") [.ref D, y]) (fun _ s' => ∃ k, k < its.size + 1 - i ∧ CpI s₁ h₀ L m its ax I C D J k s') E { s₁ with heap := h, toks := tk } := by
  refine append_at (hsz := by show ys.toArray.size ≤ sizeLine; rw [List.size_toArray]; exact Nat.le_trans (Nat.le_trans hy (Nat.le_of_lt hlt)) hsz) (N _ (.tail _ (.tail _ (.head _)))).1 fun h10 hs10 hD10 => ?_
  refine cp_next hlt (by rw [List.length_append, List.length_singleton]; exact Nat.succ_le_succ hy) hC hI (F.change hs10 a.dl a.d0) (fun p hp => ?_) off S j
  rcases List.mem_cons.mp hp with rfl | hp
  · exact ⟨hs10.extBut _ _ a.id (N _ (.head _)).1, a.il, a.i0⟩
  · rcases List.mem_cons.mp hp with rfl | hp
    · exact ⟨hs10.extBut _ _ a.dc.symm (N _ (.tail _ (.head _))).1, a.cl, a.c0⟩
    · rcases List.mem_cons.mp hp with rfl | hp
      · exact ⟨hD10.trans (congrArg some (lst_snoc ys y)), a.dl, a.d0⟩
      · have z := N _ (.tail _ (.tail _ (.tail _ hp)))
        exact ⟨hs10.extBut _ _ (off.mem p hp).2.2 z.1, z.2⟩
end
section
variable {prog : Program} {w : World} {A : Around} {E : Value → Shared → Prop} {s₁ : Shared} {h₀ : Heap} {L ax I C D : Addr} {m m' : Str → Option Value} {its : Array Value} {J : Nat → List Value → List (Addr × Obj) → Prop} {env : Env} {nw : List (Addr × Obj)}

theorem cp_env {elt : Expr} {gens : List Comprehension} {scope : Scope} {cl : List (Str × Addr)} {pos : Pos} {post : Value → Addr → Result → Shared → Prop} {it : Value} {H1 : Heap} {z : Nat} (hz : H1.objs.size = z) (hcell : ∀ y ∈ scope.names, y.2 ≠ .cell) (hkind : scope.kind = .function)
    (go : ∀ h tk m₀, (∀ b o, H1.get? b = some o → h.get? b = some o) → h.get? z = some (lst []) → h.Ns (z + 1) m₀ →
      codeAny (model prog w) A (.compStart (.ListComp elt gens scope pos) 0 it (.ref z) (compEnvC scope cl (z + 1) env)) (post (.ref z) (z + 1)) { s₁ with heap := h, toks := tk }) :
    wpAny (model prog w) A (newList []) (fun acc s₃ => wpAny (model prog w) A (newFunctionEnv scope env.globals cl [] env.qual none Value.none (some env))
      (fun cenv s₄ => codeAny (model prog w) A (.compStart (.ListComp elt gens scope pos) 0 it acc { cenv with scope := relabel scope env }) (post acc cenv.locals) s₄) E s₃) E { s₁ with heap := H1 } := by
  refine wpAny_newObj_type (wpAny_newFunctionEnv hcell (by intro y hy; simp at hy) (fun h₁ hns₁ hsb₁ => ?_) hkind)
  show codeAny _ _ (.compStart _ 0 it (.ref H1.objs.size) (compEnvC scope cl (H1.push _).objs.size env)) (post (.ref H1.objs.size) (H1.push _).objs.size) _
  dsimp only at hns₁ hsb₁ ⊢
  have hacc : (H1.push { cls := .type "list", data := .seq #[] }).get? H1.objs.size = some (lst []) := Heap.get?_push_size _ rfl
  have up : ∀ b o, H1.get? b = some o → (H1.push { cls := .type "list", data := .seq #[] }).get? b = some o := fun b o e => Heap.get?_push_of_some _ e
  have hsz2 : (H1.push { cls := .type "list", data := .seq ([] : List Value).toArray }).objs.size = z + 1 := by rw [Heap.size_push, hz]
  rw [hsz2] at hns₁ hsb₁ ⊢
  rw [hz] at hacc ⊢
  exact go h₁ _ _ (fun b o e => hsb₁.extBut b o (Nat.ne_of_lt (Nat.lt_succ_of_lt (hz ▸ Heap.lt_size e))) (Heap.get?_push_of_some _ (up b o e))) (hsb₁.extBut _ _ (Nat.ne_of_lt (Nat.lt_succ_self _)) (Heap.get?_push_of_some _ hacc)) hns₁

theorem cp_pre {elt target iter : Expr} {cs : List Expr} {scope : Scope} {cl : List (Str × Addr)} {pos : Pos} {post : Value → Addr → Result → Shared → Prop} {kk : Nat}
    (hh : A.handled = none) (F : Fr h₀ L s₁.heap m) (N : News h₀ L s₁.heap nw) (hax : (ax, ({ cls := .type "list", data := .seq its kk } : Obj)) ∈ nw) (hJ : J 0 [] nw) (hcell : ∀ y ∈ scope.names, y.2 ≠ .cell) (hkind : scope.kind = .function)
    (loop : ∀ h tk I C D, CpAd h₀ L ax I C D → CpI s₁ h₀ L m its ax I C D J (its.size + 1) { s₁ with heap := h, toks := tk } →
      codeAny (model prog w) A (.compLoop (.ListComp elt [⟨target, iter, cs, 0⟩] scope pos) 0 (.ref I) (.ref D) (compEnvC scope cl C env)) (post (.ref D) C) { s₁ with heap := h, toks := tk }) :
    wpAny (model prog w) A (pyIter (.ref ax)) (fun it s₂ => wpAny (model prog w) A (newList []) (fun acc s₃ => wpAny (model prog w) A (newFunctionEnv scope env.globals cl [] env.qual none Value.none (some env))
      (fun cenv s₄ => codeAny (model prog w) A (.compStart (.ListComp elt [⟨target, iter, cs, 0⟩] scope pos) 0 it acc { cenv with scope := relabel scope env }) (post acc cenv.locals) s₄) E s₃) E s₂) E s₁ := by
  have hl : s₁.heap.IsList ax its := ⟨_, (N _ hax).1, rfl, _, rfl⟩
  have hlt : ax < s₁.heap.objs.size := Heap.lt_size (N _ hax).1
  have W := Walks.list (prog := prog) (w := w) hh s₁.heap.objs.size ax (Nat.ne_of_lt hlt) its
  refine wpAny_pyIter_list hl ?_
  have up : ∀ b o, s₁.heap.get? b = some o → (s₁.heap.push { cls := .type "list_iterator", data := .fields #[.ref ax, .int 0 0] }).get? b = some o := fun b o e => Heap.get?_push_of_some _ e
  have hst : (s₁.heap.push { cls := .type "list_iterator", data := .fields #[.ref ax, .int 0 0] }).IsListIter s₁.heap.objs.size ax 0 := ⟨_, Heap.get?_push_size _ rfl, rfl, rfl⟩
  have nlt : ∀ p ∈ nw, p.1 < s₁.heap.objs.size := fun p hp => Heap.lt_size (N p hp).1
  have hLI : L < s₁.heap.objs.size := F.ns.lt
  have hab : h₀.objs.size ≤ L := F.above
  replace F := F.keeps up
  replace N := N.grown up
  replace hl := hl.push { cls := .type "list_iterator", data := .fields #[.ref ax, .int 0 0] }
  have hsz1 : (s₁.heap.push { cls := .type "list_iterator", data := .fields #[.ref ax, .int 0 0] }).objs.size = s₁.heap.objs.size + 1 := Heap.size_push _ _
  clear up
  generalize s₁.heap.push { cls := .type "list_iterator", data := .fields #[.ref ax, .int 0 0] } = H1 at *
  generalize s₁.heap.objs.size = I at *
  refine cp_env (s₁ := s₁) hsz1 hcell hkind fun h₁ tk₁ m₀ old hacc hns₁ => ?_
  have h0 : ∀ a : Nat, I ≤ a → h₀.get? a = none := fun a ha => Heap.get?_none_of_le (Nat.le_trans hab (Nat.le_of_lt (Nat.lt_of_lt_of_le hLI ha)))
  have neI : ∀ a : Nat, I ≤ a → ∀ p ∈ nw, p.1 ≠ a := fun a ha p hp => Nat.ne_of_lt (Nat.lt_of_lt_of_le (nlt p hp) ha)
  have neL : ∀ a : Nat, I ≤ a → a ≠ L := fun a ha => (Nat.ne_of_lt (Nat.lt_of_lt_of_le hLI ha)).symm
  have le1 : I ≤ I + 1 := Nat.le_succ _
  have le2 : I ≤ I + 1 + 1 := Nat.le_succ_of_le le1
  have ad : CpAd h₀ L ax I (I + 1 + 1) (I + 1) := ⟨neL _ (Nat.le_refl _), neL _ le2, neL _ le1, h0 _ (Nat.le_refl _), h0 _ le2, h0 _ le1, Nat.ne_of_lt (Nat.lt_succ_self _), Nat.ne_of_lt (Nat.lt_succ_self _), Nat.ne_of_lt (Nat.lt_succ_of_lt (Nat.lt_succ_self _)),
    Nat.ne_of_lt (Nat.lt_succ_of_lt (Nat.lt_succ_of_lt hlt)), Nat.ne_of_lt (Nat.lt_succ_of_lt hlt)⟩
  have ha := hst.at fun o e => old _ o e
  have hb := hl.at fun o e => old _ o e
  refine (fun loop => codeAny_compStart_list loop (W.self 0 _ _ _ ⟨ha, hb⟩ loop)) ?_
  refine loop h₁ _ I (I + 1 + 1) (I + 1) ad (.mk (i := 0) (ys := []) (Nat.zero_le _) (Nat.le_refl _) ⟨ha, hb, F.keeps old, hns₁, fun p hp => ?_, Off3.of fun p hp => ⟨neI I (Nat.le_refl _) p hp, neI _ le2 p hp, neI _ le1 p hp⟩, .inr ⟨_, hax, rfl, _, rfl⟩, hJ⟩)
  rcases List.mem_cons.mp hp with rfl | hp
  · exact ⟨hacc, ad.dl, ad.d0⟩
  · exact ⟨old _ _ (N p hp).1, (N p hp).2⟩

theorem cp_item {Q : Option Value → Shared → Prop} {E' : Value → Shared → Prop} {h : Heap} {tk i : Nat} {ys : List Value} (hh : A.handled = none) (a : CpAd h₀ L ax I C D) (hi : i ≤ its.size) (c : Cp h₀ L m its ax I C D J i i h ys nw m')
    (item : ∀ v h' tk, i < its.size → its[i]? = some v → Cp h₀ L m its ax I C D J (i + 1) i h' ys nw m' → Q (some v) { s₁ with heap := h', toks := tk })
    (done : ∀ h' tk, i = its.size → J its.size ys nw → Fr h₀ L h' m → h'.Ns C m' → News h₀ L h' ((D, lst ys) :: nw) → Q none { s₁ with heap := h', toks := tk }) :
    wpAny (model prog w) A (pyNext (.ref I)) Q E' { s₁ with heap := h, toks := tk } := by
  have hne : ax ≠ I := fun e => by
    obtain ⟨o, e1, c1, _⟩ := c.ls
    obtain ⟨o', e2, c2, _⟩ := c.it
    rw [e, e2] at e1
    obtain rfl := Option.some.inj e1
    rw [c1] at c2
    simp at c2
  have W := Walks.list (prog := prog) (w := w) hh I ax hne its
  have fr2 : ∀ h' : Heap, (∀ b o, b ∉ [I] → h.get? b = some o → h'.get? b = some o) → Fr h₀ L h' m ∧ h'.Ns C m' ∧ News h₀ L h' ((D, lst ys) :: nw) := fun h' hk =>
    ⟨fr_but c.fr hk a.il.symm a.i0, c.ns.at' fun o e => hk _ o (by rw [List.mem_singleton]; exact a.ic.symm) e, news_but c.nws hk (c.offI a)⟩
  rcases Nat.lt_or_ge i its.size with hlt | hge
  · refine W.item i _ _ _ hlt ⟨c.it, c.ls⟩ fun v h₂ tk₂ hv hst hk => ?_
    obtain ⟨F2, n2, N2⟩ := fr2 h₂ hk
    exact item v h₂ tk₂ hlt hv ⟨hst.1, hst.2, F2, n2, N2, c.off, c.src, c.j⟩
  · obtain rfl := Nat.le_antisymm hi hge
    refine W.done _ _ _ ⟨c.it, c.ls⟩ fun h₂ tk₂ hk => ?_
    obtain ⟨F2, n2, N2⟩ := fr2 h₂ hk
    exact done h₂ tk₂ rfl c.j F2 n2 N2
end
end
section
open PySem PySem.W PySem.Calls
open PyProof.Rows hiding wpAt wpAt_mono wpAt_bind wpAt_stack strKind
open PySem.W.X (Mem)
set_option Elab.async false
set_option maxRecDepth 100000
set_option maxHeartbeats 2000000
set_option pp.deepTerms false
set_option pp.maxSteps 3000
open LCg

def Turns3 (prog : Program) (w : World) (A : Around) (h₀ : Heap) (L : Addr) (m : Str → Option Value) (env : Env) (elt : Expr) (xs : Str × Str × Str) (scope : Scope) (cl : List (Str × Addr)) (s : Shared) (S : List (Addr × Obj) → Prop) (P : Nat → Value → Prop)
    (J : Nat → List Value → List (Addr × Obj) → Prop) (n : Nat) : Prop :=
  ∀ i ys nw v, i < n → J i ys nw → P i v → ∃ t ot v1 v2 v3 nt, v = .ref t ∧ (t, ot) ∈ nw ∧ ot.cls = .type "tuple" ∧ ot.data = .seq #[v1, v2, v3] nt ∧
    ∀ I oI C oC D m₂ h tk (E' : Value → Shared → Prop), NsObj oC m₂ → m₂ xs.1 = some v1 → m₂ xs.2.1 = some v2 → m₂ xs.2.2 = some v3 → Fr h₀ L h m → News h₀ L h ((I, oI) :: (C, oC) :: (D, lst ys) :: nw) → Off3 I C D nw → ((@Ne Nat I C) ∧ (@Ne Nat I D) ∧ (@Ne Nat C D)) →
      wpAny (model prog w) A (eval elt (compEnvC scope cl C env)) (CompEnd h₀ L m { s with heap := h, toks := tk } I oI C oC D (lst ys) S (fun y nw' => J (i + 1) (ys ++ [y]) nw')) E' { s with heap := h, toks := tk }
section
variable {prog : Program} {w : World} {A : Around} {E : Value → Shared → Prop} {s : Shared} {h₀ : Heap} {L : Addr} {m : Str → Option Value} {env : Env}
theorem cp_turn3 {elt : Expr} {x1 x2 x3 : Str} {p1 p2 p3 tp : Pos} {tk0} {scope : Scope} {cl : List (Str × Addr)} {ax I C D : Addr} {its : Array Value} {J : Nat → List Value → List (Addr × Obj) → Prop} {i tk : Nat} {h : Heap} {ys : List Value} {nw : List (Addr × Obj)} {m' : Str → Option Value} {v : Value} {E₁ E₂ E₃ E₄ : Value → Shared → Prop}
    (hkind : scope.kind = .function) (hx1 : scope.names.lookup x1 = some .local) (hx2 : scope.names.lookup x2 = some .local) (hx3 : scope.names.lookup x3 = some .local) (h12 : x1 ≠ x2) (h13 : x1 ≠ x3) (h23 : x2 ≠ x3) (hh : A.handled = none) (hsz : its.size ≤ sizeLine)
    (hT : ∀ g, Turns3 prog w A h₀ L m env elt (x1, x2, x3) scope cl { s with heap := g } (SrcAt h₀ ax its) (fun i v => its[i]? = some v) J its.size) (a : CpAd h₀ L ax I C D) (hyl : ys.length ≤ i) (hlt : i < its.size) (hv : its[i]? = some v) (c : Cp h₀ L m its ax I C D J (i + 1) i h ys nw m') :
    wpAny (model prog w) A (letOwnedTupleGo (.Tuple [.Name x1 p1, .Name x2 p2, .Name x3 p3] tk0 tp) (.ref I) v) (fun _ s' => wpAny (model prog w) A (assign (.Tuple [.Name x1 p1, .Name x2 p2, .Name x3 p3] tk0 tp) (compEnvC scope cl C env) v) (fun _ s₂ =>
      wpAny (model prog w) A (eval elt (compEnvC scope cl C env)) (fun x s₄ => wpAny (model prog w) A (call (.builtin "list.append") [.ref D, x]) (fun _ s₅ => ∃ k, k < its.size + 1 - i ∧ CpI s h₀ L m its ax I C D J k s₅) E₄ s₄) E₃ s₂) E₂ s') E₁ { s with heap := h, toks := tk } := by
  obtain ⟨t, ot, v1, v2, v3, nt, rfl, hmt, hct, hdt, R''⟩ := hT s.heap i ys nw v hlt c.j hv
  have ht : IsTup h t #[v1, v2, v3] := ⟨ot, (c.nws _ (.tail _ hmt)).1, hct, nt, hdt⟩
  refine wpAny_letOwnedTupleGo_listiter c.it ?_
  refine assign_Tuple_tuple hh ht rfl rfl fun h₅ he => ?_
  replace c := c.keeps fun b o e => he b o (Nat.ne_of_lt (Heap.lt_size e)) e
  refine assignInOrder_cons (wpAny_assign_Name (wpAny_storeName_local (lookup_relabel_local hx1) c.ns (fun h6 hn6 hs6 => ?_) (by simp [compEnvC, relabel, hkind])))
  replace c := c.set a hn6 hs6
  clear hn6 hs6 ht he
  refine assignInOrder_cons (wpAny_assign_Name (wpAny_storeName_local (lookup_relabel_local hx2) c.ns (fun h7 hn7 hs7 => ?_) (by simp [compEnvC, relabel, hkind])))
  replace c := c.set a hn7 hs7
  refine assignInOrder_cons (wpAny_assign_Name (wpAny_storeName_local (lookup_relabel_local hx3) c.ns (fun h8 hn8 hs8 => ?_) (by simp [compEnvC, relabel, hkind])))
  replace c := c.set a hn8 hs8
  refine assignInOrder_nil ?_
  obtain ⟨oI, oC, hC, hI, N8⟩ := c.full a
  refine wpAny_mono (R'' I oI C oC D _ _ _ _ hC (by simp [h12, h13]) (by simp [h23]) (by simp) c.fr N8 c.off ⟨a.ic, a.id, a.dc.symm⟩) (fun y s₄ hc => ?_) fun _ _ e => e
  obtain ⟨h9, tk9, nw9, rfl, F9, N9, off9, hS9, J9⟩ := hc
  exact cp_append a hsz hlt hyl hC hI F9 N9 off9 hS9 J9
theorem list3 {elt iter : Expr} {x1 x2 x3 : Str} {p1 p2 p3 tp : Pos} {tk0} {scope : Scope} {cl : List (Str × Addr)} {pos : Pos} {Q : Value → Shared → Prop}
    (_F₀ : Fr h₀ L s.heap m) (hclos : closureFor scope env = pure cl) (hcell : ∀ y ∈ scope.names, y.2 ≠ .cell) (hkind : scope.kind = .function) (hnames : ∀ y ∈ scope.names, y.2 = .local → scope.names.lookup y.1 = some .local)
    (hx1 : scope.names.lookup x1 = some .local) (hx2 : scope.names.lookup x2 = some .local) (hx3 : scope.names.lookup x3 = some .local) (h12 : x1 ≠ x2) (h13 : x1 ≠ x3) (h23 : x2 ≠ x3)
    (h : wpAny (model prog w) A (eval iter env) (fun xv s₁ => ∃ ax its k nw J, xv = .ref ax ∧ A.handled = none ∧ Fr h₀ L s₁.heap m ∧ News h₀ L s₁.heap nw ∧ (ax, ({ cls := .type "list", data := .seq its k } : Obj)) ∈ nw ∧ its.size ≤ sizeLine ∧ J 0 [] nw ∧
      (∀ g, Turns3 prog w A h₀ L m env elt (x1, x2, x3) scope cl { s₁ with heap := g } (SrcAt h₀ ax its) (fun i v => its[i]? = some v) J its.size) ∧
      ∀ g ys nw', J its.size ys nw' → FinE h₀ L m { s₁ with heap := g } Q ys nw') E s)
    (hs : ∀ x, foldedSetIterable iter env x = pure x := by intro _; rfl) :
    wpAny (model prog w) A (eval (.ListComp elt [⟨.Tuple [.Name x1 p1, .Name x2 p2, .Name x3 p3] tk0 tp, iter, [], 0⟩] scope pos) env) Q E s := by
  rw [eval_ListComp]
  refine wpAny_comprehension_free (use := none) rfl hs hclos hkind hnames (wpAny_mono h (fun xv s₁ h₁ => ?_) fun _ _ e => e)
  obtain ⟨ax, its, kk, nw, J, rfl, hh, F, N, hax, hsz, hJ, hT, hfin⟩ := h₁
  refine cp_pre (post := fun acc C => compPost (model prog w) A E none Q acc C) hh F N hax hJ hcell hkind fun h tk I C D a c0 => ?_
  refine LCp.codeAny_compLoop_pair (CpI s₁ h₀ L m its ax I C D J) ?_ _ c0
  rintro _ _ @⟨h, tk, i, ys, nw', m', hi, hyl, c⟩
  refine cp_item hh a hi c (fun v h₂ tk₂ hlt hv c => ?_) fun h₂ tk₂ e j F2 n2 N2 => ?_
  · exact cp_turn3 hkind hx1 hx2 hx3 h12 h13 h23 hh hsz hT a hyl hlt hv c
  · subst e
    exact ⟨m', n2, fun h'' hs'' => hfin s₁.heap ys nw' j D h'' _ (F2.change hs'' a.cl a.c0) (fun p hp => ⟨hs''.extBut _ _ (c.offD a p hp) (N2 p hp).1, (N2 p hp).2⟩) c.off.one⟩
end
end
section
open PySem PySem.W PySem.Calls
open PyProof.Rows hiding wpAt wpAt_mono wpAt_bind wpAt_stack strKind
open PySem.W.X (Mem)
set_option Elab.async false
set_option maxRecDepth 100000
set_option maxHeartbeats 2000000
set_option pp.deepTerms false
set_option pp.maxSteps 3000
open LCg LCt
theorem under_cases (ds : List Deed) (n : Str) (u : Int) : underS ds n u = [] ∨ ∃ k0 vals, underS ds n u = [(k0, n, vals)] ∧ 0 ≤ k0 ∧ k0 < (ds.length : Int) ∧ dN ds k0 = n := by
  unfold underS
  cases h : makS ds n u with
  | nil => exact .inl rfl
  | cons k0 r =>
    refine .inr ⟨k0, _, rfl, ?_⟩
    have h1 : k0 ∈ makS ds n u := by rw [h]; exact .head _
    have h2 := (List.mem_filter.mp (List.mem_filter.mp h1).1).1
    have h3 := List.mem_filter.mp h2
    have h4 := mem_rangeKs h3.1
    exact ⟨by omega, by omega, of_decide_eq_true h3.2⟩
theorem RowsAre.of_nil {o : List (Addr × Obj)} {vs : List Value} (h : RowsAre o vs []) : vs = [] := by cases h; rfl
theorem RowsAre.of_one {o : List (Addr × Obj)} {vs : List Value} {r : Int × Str × List Str} (h : RowsAre o vs [r]) : ∃ v, vs = [v] ∧ RowIn o v r := by
  cases h with
  | cons x y => cases y; exact ⟨_, rfl, x⟩
theorem DeedIn.mono {o o' : List (Addr × Obj)} (h : ∀ p ∈ o, p ∈ o') {v : Value} {D : Deed} (x : DeedIn o v D) : DeedIn o' v D := by
  obtain ⟨a, t1, t2, t3, t4, n, e, m, r⟩ := x
  exact ⟨a, t1, t2, t3, t4, n, e, h _ m, r⟩
theorem DeedsAre.mono {o o' : List (Addr × Obj)} (h : ∀ p ∈ o, p ∈ o') {vs : List Value} {ds : List Deed} (y : DeedsAre o vs ds) : DeedsAre o' vs ds := by
  induction y with
  | nil => exact .nil
  | cons a _ ih => exact .cons (a.mono h) ih
theorem DeedsIn.mono {o o' : List (Addr × Obj)} (h : ∀ p ∈ o, p ∈ o') {l : Addr} {ds : List Deed} (x : DeedsIn o l ds) : DeedsIn o' l ds := by
  obtain ⟨vs, n, m, y⟩ := x
  exact ⟨vs, n, h _ m, y.mono h⟩
theorem TxtAt.mono {o o' : List (Addr × Obj)} (h : ∀ p ∈ o, p ∈ o') {v : Value} {ws : List Str} (x : TxtAt o v ws) : TxtAt o' v ws := by
  obtain ⟨a, us, n, e1, e2, e3⟩ := x
  exact ⟨a, us, n, e1, h _ e2, e3⟩
theorem RowsAre.mono {o o' : List (Addr × Obj)} (h : ∀ p ∈ o, p ∈ o') {vs : List Value} {rs : List (Int × Str × List Str)} (y : RowsAre o vs rs) : RowsAre o' vs rs := by
  induction y with
  | nil => exact .nil
  | cons x _ ih => obtain ⟨a, t1, t2, la, k, e, m, z⟩ := x; exact .cons ⟨a, t1, t2, la, k, e, h _ m, z.mono h⟩ ih
theorem RowsAre.append {o : List (Addr × Obj)} {vs us : List Value} {rs ss : List (Int × Str × List Str)} (y : RowsAre o vs rs) (z : RowsAre o us ss) : RowsAre o (vs ++ us) (rs ++ ss) := by
  induction y with
  | nil => exact z
  | cons x _ ih => exact .cons x ih
theorem RowsAre.length {o : List (Addr × Obj)} {vs : List Value} {rs : List (Int × Str × List Str)} (y : RowsAre o vs rs) : vs.length = rs.length := by
  induction y with
  | nil => rfl
  | cons x _ ih => rw [List.length_cons, List.length_cons, ih]
theorem under_len (ds : List Deed) (n : Str) (u : Int) : (underS ds n u).length ≤ 1 := by
  rcases under_cases ds n u with e | ⟨_, _, e, _⟩ <;> rw [e]
  · exact Nat.zero_le _
  · exact Nat.le_refl _
theorem news_front {h₀ h : Heap} {L : Addr} {nw : List (Addr × Obj)} {p : Addr × Obj} (N : News h₀ L h nw) (hp : p ∈ nw) : News h₀ L h (p :: nw) := List.forall_mem_cons.mpr ⟨N _ hp, N⟩
end
section
open PySem PySem.W PySem.Calls
open PyProof.Rows hiding wpAt wpAt_mono wpAt_bind wpAt_stack strKind
open PySem.W.X (Mem)
set_option Elab.async false
set_option maxRecDepth 100000
set_option maxHeartbeats 2000000
set_option pp.deepTerms false
set_option pp.maxSteps 3000
open LCg
section
open PySem.W.X
variable {w : World} {hp : Heap} {gs : Array GenState} {dr : Drawn} {tk : Nat} {os : OsState} {Q E : Value → Shared → Prop}
local macro_rules | `(tactic| x_close) => `(tactic| ((with_reducible rename Ret _ => hr9); (have hz9 := Ret.out hr9); first | exact hz9 _ _ _ _ _ _ _ (by assumption)))
theorem x_sort0 {l : Addr} {n : Nat} (hl : hp.get? l = some { cls := .type "list", data := .seq #[] n })
   (hret : Ret <| ∀ r c nw p q h' tk', Mem hp h' [] (p :: q :: (r, { cls := .type "list", data := .seq #[] c}) :: nw) → Q (.ref r) ⟨h', gs, dr, tk', os⟩) :
    wpAny (model PySem.Challenge.rw_in0186_01.row.prog w) A0 (call (.builtin "sorted") [.ref l]) Q E ⟨hp, gs, dr, tk, os⟩ := by
  x_run
theorem x_sort1 {l : Addr} {n : Nat} {v : Value} (hl : hp.get? l = some { cls := .type "list", data := .seq #[v] n })
   (hret : Ret <| ∀ r c nw p q h' tk', Mem hp h' [] (p :: q :: (r, { cls := .type "list", data := .seq #[v] c}) :: nw) → Q (.ref r) ⟨h', gs, dr, tk', os⟩) :
    wpAny (model PySem.Challenge.rw_in0186_01.row.prog w) A0 (call (.builtin "sorted") [.ref l]) Q E ⟨hp, gs, dr, tk, os⟩ := by
  x_run
end
end
section
open PySem PySem.W PySem.Calls
open PyProof.Rows hiding wpAt wpAt_mono wpAt_bind wpAt_stack strKind
open PySem.W.X (Mem)
set_option Elab.async false
set_option maxRecDepth 100000
set_option maxHeartbeats 2000000
set_option pp.deepTerms false
set_option pp.maxSteps 3000
open LCg
abbrev Row := Int × Str × List Str
def SortedOf (rs rs' : List Row) : Prop := rs'.Perm rs ∧ rs'.Pairwise fun a b => a.1 < b.1
theorem kas_out' {h₀ : Heap} {L D : Addr} {m : Str → Option Value} {e : Nat} {out : List Value} {s : Shared} {nw nw2 : List (Addr × Obj)} {rs rs' : List Row} {Q : Value → Shared → Prop} {h1 : Heap} {tk1 : Nat} (F : Fr h₀ L h1 m) (N : News h₀ L h1 ((D, seqObj "list" #[] e) :: nw2)) (hl : ∀ q ∈ nw2, q.1 < D) (hsub : ∀ p ∈ nw, p ∈ nw2)
    (R : RowsAre nw out rs') (hs : SortedOf rs rs')
    (hq : ∀ D c h' tk' vs' rs', Fr h₀ L h' m → News h₀ L h' ((D, listOf (List.toArray vs') c) :: nw) → RowsAre nw vs' rs' → SortedOf rs rs' → Q (.ref D) { s with heap := h', toks := tk' }) :
    KasFin h₀ L m D e out (fun s3 => Q (.ref D) s3) { s with heap := h1, toks := tk1 } :=
  KasFin.intro F N (UpdF.head fun p hp => Nat.ne_of_lt (hl p hp)) fun h' c F' N' => hq D c h' tk1 out rs' F' (fun p hp => N' p (by
    rcases List.mem_cons.mp hp with rfl | hp
    · exact .head _
    · exact .tail _ (hsub p hp))) R hs
theorem so3 {a b c : Row} (h1 : a.1 < b.1) (h2 : b.1 < c.1) : [a, b, c].Pairwise fun a b => a.1 < b.1 := by
  refine List.pairwise_cons.mpr ⟨fun x hx => ?_, List.pairwise_cons.mpr ⟨fun x hx => ?_, List.pairwise_singleton _ _⟩⟩
  · rcases List.mem_cons.mp hx with rfl | hx
    · exact h1
    · rw [List.mem_singleton.mp hx]; exact Int.lt_trans h1 h2
  · rw [List.mem_singleton.mp hx]; exact h2
theorem sorted_rows {w : World} {A : Around} {Q E : Value → Shared → Prop} {s : Shared} {h₀ : Heap} {L : Addr} {m : Str → Option Value} {nw : List (Addr × Obj)} {l : Addr} {vs : List Value} {n : Nat} {rs : List Row} (hh : A.handled = none) (hdp : A.depth ≤ 800) (hun : A.units ≤ 8000)
    (F : Fr h₀ L s.heap m) (X : (hd.heap_1 w.params).In h₀) {mean : ExcName → Option Value} {mg mb : Str → Option Value} (T : Top topProg lo mean mg mb h₀) (N : News h₀ L s.heap nw) (hm : (l, ({ cls := .type "list", data := .seq vs.toArray n } : Obj)) ∈ nw) (R : RowsAre nw vs rs) (h3 : rs.length ≤ 3) (hd : rs.Pairwise fun a b => a.1 ≠ b.1)
    (hq : ∀ D c h' tk' vs' rs', Fr h₀ L h' m → News h₀ L h' ((D, listOf (List.toArray vs') c) :: nw) → RowsAre nw vs' rs' → SortedOf rs rs' → Q (.ref D) { s with heap := h', toks := tk' }) :
    wpAny (model PySem.Challenge.rw_in0186_01.row.prog w) A (call (.builtin "sorted") [.ref l]) Q E s := by
  revert X; k_fill; intro X
  match rs, R, h3, hd, hq with
  | [], R, _, _, hq =>
    cases R.of_nil
    obtain ⟨hp, gs, dr, tk, os⟩ := s
    refine under0 hh hdp hun (x_sort0 (N _ hm).1 ⟨fun r c nw2 p q h' tk' D => ?_⟩)
    have N2 := mem_news D F N
    exact hq r c h' tk' [] [] (keep_fr (mem_keep D) F) (fun z hz => N2 z (by
      rcases List.mem_cons.mp hz with rfl | hz
      · exact .tail _ (.tail _ (.head _))
      · exact List.mem_append.mpr (.inr hz))) .nil ⟨List.Perm.refl _, .nil⟩
  | [r1], R, _, _, hq =>
    obtain ⟨v, rfl, x1⟩ := R.of_one
    obtain ⟨hp, gs, dr, tk, os⟩ := s
    refine under0 hh hdp hun (x_sort1 (v := v) (N _ hm).1 ⟨fun r c nw2 p q h' tk' D => ?_⟩)
    have N2 := mem_news D F N
    exact hq r c h' tk' [v] [r1] (keep_fr (mem_keep D) F) (fun z hz => N2 z (by
      rcases List.mem_cons.mp hz with rfl | hz
      · exact .tail _ (.tail _ (.head _))
      · exact List.mem_append.mpr (.inr hz))) (.cons x1 .nil) ⟨List.Perm.refl _, List.pairwise_singleton _ _⟩
  | [r1, r2], R, _, hd, hq =>
    have hne : r1.1 ≠ r2.1 := (List.pairwise_cons.mp hd).1 _ (.head _)
    cases R with
    | cons x1 R1 =>
    cases R1 with
    | cons x2 R2 =>
    cases R2
    have y1 := x1
    have y2 := x2
    obtain ⟨a1, t1, u1, la1, q1, rfl, m1, z1⟩ := x1
    obtain ⟨a2, t2, u2, la2, q2, rfl, m2, z2⟩ := x2
    have NN1 := news_front N m1
    have NN2 := news_front NN1 (.tail _ m2)
    refine kat_sorted (vs := [_, _]) F NN2 (News.isL NN2 (.tail _ (.tail _ hm))) (Nat.le_of_ble_eq_true rfl) (Nat.le_of_ble_eq_true rfl) ?_
    intro D' e' h' F' N' l1
    kat_kinds
    repeat' (first | (exfalso; first | exact hne (by assumption) | exact hne (Eq.symm (by assumption))) | (k_unfold; (try dsimp only)) | (k_end; wrow_close) | (dsimp only; walk1) | walk1)
    · refine kas_out' (rs' := [r2, r1]) (by assumption) (by assumption) l1 (fun p hp => .tail _ (.tail _ hp)) (.cons y2 (.cons y1 .nil)) ⟨List.Perm.swap _ _ _, List.pairwise_cons.mpr ⟨fun b hb => ?_, List.pairwise_singleton _ _⟩⟩ hq
      rw [List.mem_singleton.mp hb]; assumption
    · refine kas_out' (rs' := [r1, r2]) (by assumption) (by assumption) l1 (fun p hp => .tail _ (.tail _ hp)) (.cons y1 (.cons y2 .nil)) ⟨List.Perm.refl _, List.pairwise_cons.mpr ⟨fun b hb => ?_, List.pairwise_singleton _ _⟩⟩ hq
      rw [List.mem_singleton.mp hb]; omega
  | [r1, r2, r3], R, _, hd, hq =>
    have hne1 : r1.1 ≠ r2.1 := (List.pairwise_cons.mp hd).1 _ (.head _)
    have hne2 : r1.1 ≠ r3.1 := (List.pairwise_cons.mp hd).1 _ (.tail _ (.head _))
    have hne3 : r2.1 ≠ r3.1 := (List.pairwise_cons.mp (List.pairwise_cons.mp hd).2).1 _ (.head _)
    cases R with
    | cons x1 R1 =>
    cases R1 with
    | cons x2 R2 =>
    cases R2 with
    | cons x3 R3 =>
    cases R3
    have y1 := x1
    have y2 := x2
    have y3 := x3
    obtain ⟨a1, t1, u1, la1, q1, rfl, m1, z1⟩ := x1
    obtain ⟨a2, t2, u2, la2, q2, rfl, m2, z2⟩ := x2
    obtain ⟨a3, t3, u3, la3, q3, rfl, m3, z3⟩ := x3
    have NN1 := news_front N m1
    have NN2 := news_front NN1 (.tail _ m2)
    have NN3 := news_front NN2 (.tail _ (.tail _ m3))
    refine kat_sorted (vs := [_, _, _]) F NN3 (News.isL NN3 (.tail _ (.tail _ (.tail _ hm)))) (Nat.le_of_ble_eq_true rfl) (Nat.le_of_ble_eq_true rfl) ?_
    intro D' e' h' F' N' l1
    kat_kinds
    repeat' (first | (exfalso; first | exact hne1 (by assumption) | exact hne1 (Eq.symm (by assumption)) | exact hne2 (by assumption) | exact hne2 (Eq.symm (by assumption)) | exact hne3 (by assumption) | exact hne3 (Eq.symm (by assumption))) | (k_unfold; (try dsimp only)) | (k_end; wrow_close) | (dsimp only; walk1) | walk1)
    all_goals first
      | exact kas_out' (rs' := [r1, r2, r3]) (by assumption) (by assumption) l1 (fun p hp => .tail _ (.tail _ (.tail _ hp))) (.cons y1 (.cons y2 (.cons y3 .nil))) ⟨List.Perm.refl _, so3 (by omega) (by omega)⟩ hq
      | exact kas_out' (rs' := [r1, r3, r2]) (by assumption) (by assumption) l1 (fun p hp => .tail _ (.tail _ (.tail _ hp))) (.cons y1 (.cons y3 (.cons y2 .nil))) ⟨(List.Perm.swap _ _ _).cons _, so3 (by omega) (by omega)⟩ hq
      | exact kas_out' (rs' := [r2, r1, r3]) (by assumption) (by assumption) l1 (fun p hp => .tail _ (.tail _ (.tail _ hp))) (.cons y2 (.cons y1 (.cons y3 .nil))) ⟨List.Perm.swap _ _ _, so3 (by omega) (by omega)⟩ hq
      | exact kas_out' (rs' := [r2, r3, r1]) (by assumption) (by assumption) l1 (fun p hp => .tail _ (.tail _ (.tail _ hp))) (.cons y2 (.cons y3 (.cons y1 .nil))) ⟨((List.Perm.swap _ _ _).cons _).trans (List.Perm.swap _ _ _), so3 (by omega) (by omega)⟩ hq
      | exact kas_out' (rs' := [r3, r1, r2]) (by assumption) (by assumption) l1 (fun p hp => .tail _ (.tail _ (.tail _ hp))) (.cons y3 (.cons y1 (.cons y2 .nil))) ⟨(List.Perm.swap _ _ _).trans ((List.Perm.swap _ _ _).cons _), so3 (by omega) (by omega)⟩ hq
      | exact kas_out' (rs' := [r3, r2, r1]) (by assumption) (by assumption) l1 (fun p hp => .tail _ (.tail _ (.tail _ hp))) (.cons y3 (.cons y2 (.cons y1 .nil))) ⟨((List.Perm.swap _ _ _).trans ((List.Perm.swap _ _ _).cons _)).trans (List.Perm.swap _ _ _), so3 (by omega) (by omega)⟩ hq
  | _ :: _ :: _ :: _ :: _, _, h3, _, _ => exact absurd h3 (by simp)
end
section
open PySem PySem.W PySem.Calls
open PyProof.Rows hiding wpAt wpAt_mono wpAt_bind wpAt_stack strKind
open PySem.W.X (Mem)
set_option Elab.async false
set_option maxRecDepth 100000
set_option maxHeartbeats 2000000
set_option pp.deepTerms false
set_option pp.maxSteps 3000
open LCg
def TRowIn (o : List (Addr × Obj)) (v : Value) (r : Str × List Str) : Prop := ∃ a t la k, v = .ref a ∧ (a, ({ cls := .type "tuple", data := .seq #[.str r.1 t, .ref la] k } : Obj)) ∈ o ∧ TxtAt o (.ref la) r.2
inductive TRowsAre (o : List (Addr × Obj)) : List Value → Tab → Prop
  | nil : TRowsAre o [] []
  | cons {v : Value} {r : Str × List Str} {vs : List Value} {rs : Tab} : TRowIn o v r → TRowsAre o vs rs → TRowsAre o (v :: vs) (r :: rs)
def TabIn (o : List (Addr × Obj)) (r : Value) (tab : Tab) : Prop := ∃ l vs n, r = .ref l ∧ (l, listOf vs.toArray n) ∈ o ∧ TRowsAre o vs tab
theorem TRowIn.mono {o o' : List (Addr × Obj)} (h : ∀ p ∈ o, p ∈ o') {v : Value} {r : Str × List Str} (x : TRowIn o v r) : TRowIn o' v r := by
  obtain ⟨a, t, la, k, e, m, z⟩ := x
  exact ⟨a, t, la, k, e, h _ m, z.mono h⟩
theorem TRowsAre.mono {o o' : List (Addr × Obj)} (h : ∀ p ∈ o, p ∈ o') {vs : List Value} {rs : Tab} (y : TRowsAre o vs rs) : TRowsAre o' vs rs := by
  induction y with
  | nil => exact .nil
  | cons x _ ih => exact .cons (x.mono h) ih
theorem TRowsAre.snoc {o : List (Addr × Obj)} {vs : List Value} {rs : Tab} {v : Value} {r : Str × List Str} (y : TRowsAre o vs rs) (x : TRowIn o v r) : TRowsAre o (vs ++ [v]) (rs ++ [r]) := by
  induction y with
  | nil => exact .cons x .nil
  | cons z _ ih => exact .cons z ih
theorem RowsAre.get {o : List (Addr × Obj)} {vs : List Value} {rs : List Row} (y : RowsAre o vs rs) {i : Nat} {v : Value} (h : vs[i]? = some v) : ∃ r, rs[i]? = some r ∧ RowIn o v r := by
  induction y generalizing i with
  | nil => simp at h
  | cons x _ ih =>
    cases i with
    | zero => cases h; exact ⟨_, rfl, x⟩
    | succ i => exact ih h
def rowsS (ds : List Deed) (u : Int) : List Row := underS ds (Str.ofString "a") u ++ underS ds (Str.ofString "") u ++ underS ds (Str.ofString "b") u
def TableS (ds : List Deed) (u : Int) (tab : Tab) : Prop := ∃ rs, SortedOf (rowsS ds u) rs ∧ tab = rs.map fun r => (r.2.1, r.2.2)
theorem rows_ne (ds : List Deed) (u : Int) : (rowsS ds u).Pairwise fun a b => a.1 ≠ b.1 := by
  have key : ∀ {n n' : Str} {a b : Row}, n ≠ n' → a ∈ underS ds n u → b ∈ underS ds n' u → a.1 ≠ b.1 := by
    intro n n' a b hn ha hb e
    rcases under_cases ds n u with h | ⟨k, vs, h, _, _, h3⟩
    · rw [h] at ha; cases ha
    · rcases under_cases ds n' u with h' | ⟨k', vs', h', _, _, h3'⟩
      · rw [h'] at hb; cases hb
      · rw [h] at ha; rw [h'] at hb
        rw [List.mem_singleton.mp ha, List.mem_singleton.mp hb] at e
        dsimp only at e
        exact hn (by rw [← h3, e, h3'])
  have one : ∀ n, (underS ds n u).Pairwise fun a b => a.1 ≠ b.1 := by
    intro n
    rcases under_cases ds n u with h | ⟨k, vs, h, _⟩ <;> rw [h]
    · exact .nil
    · exact List.pairwise_singleton _ _
  unfold rowsS
  rw [List.pairwise_append, List.pairwise_append]
  refine ⟨⟨one _, one _, fun a ha b hb => key (by decide) ha hb⟩, one _, fun a ha b hb => ?_⟩
  rcases List.mem_append.mp ha with ha | ha
  · exact key (by decide) ha hb
  · exact key (by decide) ha hb
theorem rows_len (ds : List Deed) (u : Int) : (rowsS ds u).length ≤ 3 := by
  unfold rowsS
  rw [List.length_append, List.length_append]
  have b1 := under_len ds (Str.ofString "a") u
  have b2 := under_len ds (Str.ofString "") u
  have b3 := under_len ds (Str.ofString "b") u
  omega
end
section
open PySem PySem.W PySem.Calls
open PyProof.Rows hiding wpAt wpAt_mono wpAt_bind wpAt_stack strKind
open PySem.W.X (Mem)
set_option Elab.async false
set_option maxRecDepth 100000
set_option maxHeartbeats 2000000
set_option pp.deepTerms false
set_option pp.maxSteps 3000
open PySem.SeqAt PySem.MeetsSeq
open AutoSeq1 (wpAny_loadPart')
theorem remove_loopAt (l : Addr) (items : Array Value) (n : Nat) (x : Value) (e : Value → Bool) (j : Nat) (hj : j < items.size) (hit : e items[j] = true) (k : Nat) (hs1 : items.size ≤ sizeLine) :
    ∀ i : Nat, j - i = k → i ≤ j → (∀ m (hm : m < items.size), i ≤ m → m < j → e items[m] = false) → Meets (Builtin.«list.remove.loop» ⟨[.ref l, x, rawInt i], []⟩)
      (fun A R s => s.heap.get? l = some { cls := .type "list", dict := none, data := .seq items n, slots := #[] } ∧ (∀ y, y ∈ items → EqAt A.in1 s y x (e y)) ∧ R (.ok (.ret .none)) { s with heap := s.heap.update l (Obj.mapSeq fun xs => xs.eraseIdxIfInBounds j) }) := by
  induction k with
  | zero =>
    intro i hk hij hno prog w A R s h
    obtain ⟨hp, g, d, tk, os⟩ := s; obtain ⟨hl, he, h⟩ := h
    have hij' : i = j := by omega
    subst hij'
    wp_walk using wpAny_loadPart' hl
    have hi : items[((i : Nat) : Int).toNat]? = some items[i] := by simp [hj]
    rw [hi]
    refine wpAny_bind (he _ (Array.getElem_mem hj) prog w _ _ ?_)
    rw [hit]
    have hz' : (items.eraseIdxIfInBounds i).size ≤ sizeLine + 1 := Nat.le_trans (size_erased items _) (Nat.le_succ_of_le hs1)
    wp_walk using (wpAny_updateSeq hl rfl (hz := hs1) (_hz' := hz')), wpAny_loadPart' hl
    simpa using h
  | succ k ih =>
    intro i hk hij hno prog w A R s h
    obtain ⟨hp, g, d, tk, os⟩ := s; obtain ⟨hl, he, h⟩ := h
    have hlt : i < items.size := by omega
    wp_walk using wpAny_loadPart' hl
    have hi : items[((i : Nat) : Int).toNat]? = some items[i] := by simp [hlt]
    have hc : ((i : Int) + 1) = ((i + 1 : Nat) : Int) := by push_cast; rfl
    rw [hi]
    refine wpAny_bind (he _ (Array.getElem_mem hlt) prog w _ _ ?_)
    rw [hno i hlt (Nat.le_refl _) (by omega)]
    wp_walk
    rw [hc]
    exact ⟨plainId_quiet plain_remove_loop _, codeAny_builtin entry_remove_loop (by
      rw [Around.under_plainId plain_remove_loop _]
      exact ih (i + 1) (by omega) (by omega) (fun m hm h1 h2 => hno m hm (by omega) h2) prog w A R _ ⟨hl, he, h⟩)⟩
theorem list_removeAt (l : Addr) (items : Array Value) (n : Nat) (x : Value) (e : Value → Bool) (j : Nat) (hj : j < items.size)
    (hit : e items[j] = true) (hno : ∀ m (hm : m < items.size), m < j → e items[m] = false) (hs1 : items.size ≤ sizeLine) :
    Meets (Builtin.«list.remove» ⟨[.ref l, x], []⟩)
      (fun A R s => s.heap.get? l = some { cls := .type "list", dict := none, data := .seq items n, slots := #[] } ∧ (∀ y, y ∈ items → EqAt A.in1 s y x (e y)) ∧ R (.ok (.ret .none)) { s with heap := s.heap.update l (Obj.mapSeq fun xs => xs.eraseIdxIfInBounds j) }) := by
  intro prog w A R s h
  obtain ⟨hp, g, d, tk, os⟩ := s; obtain ⟨hl, he, h⟩ := h
  wp_walk using wpAny_loadPart' hl
  exact ⟨plainId_quiet plain_remove_loop _, codeAny_builtin entry_remove_loop (by
    rw [Around.under_plainId plain_remove_loop _]
    exact remove_loopAt l items n x e j hj hit _ hs1 0 rfl (Nat.zero_le _) (fun m hm _ h2 => hno m hm h2) prog w A R _ ⟨hl, he, h⟩)⟩
theorem remove_loop_noneAt (l : Addr) (items : Array Value) (n : Nat) (x : Value) (e : Value → Bool) (hno : ∀ m (hm : m < items.size), e items[m] = false) (k : Nat) :
    ∀ i : Nat, items.size - i = k → Meets (Builtin.«list.remove.loop» ⟨[.ref l, x, rawInt i], []⟩)
      (fun A R s => s.heap.get? l = some { cls := .type "list", dict := none, data := .seq items n, slots := #[] } ∧ (∀ y, y ∈ items → EqAt A.in1 s y x (e y)) ∧ raisesNew "ValueError" A R s) := by
  induction k with
  | zero =>
    intro i hk prog w A R s h
    obtain ⟨hp, g, d, tk, os⟩ := s; obtain ⟨hl, he, h⟩ := h
    wp_walk using wpAny_loadPart' hl
    have hi : items[((i : Nat) : Int).toNat]? = none := by simp; omega
    rw [hi]
    wp_walk
    exact_raiseError plainExc_ValueError h.1 h.2
  | succ k ih =>
    intro i hk prog w A R s h
    obtain ⟨hp, g, d, tk, os⟩ := s; obtain ⟨hl, he, h⟩ := h
    have hlt : i < items.size := by omega
    wp_walk using wpAny_loadPart' hl
    have hi : items[((i : Nat) : Int).toNat]? = some items[i] := by simp [hlt]
    have hc : ((i : Int) + 1) = ((i + 1 : Nat) : Int) := by push_cast; rfl
    rw [hi]
    refine wpAny_bind (he _ (Array.getElem_mem hlt) prog w _ _ ?_)
    rw [hno i hlt]
    wp_walk
    rw [hc]
    exact ⟨plainId_quiet plain_remove_loop _, codeAny_builtin entry_remove_loop (by
      rw [Around.under_plainId plain_remove_loop _]
      exact ih (i + 1) (by omega) prog w A R _ ⟨hl, he, h⟩)⟩
theorem list_remove_noneAt (l : Addr) (items : Array Value) (n : Nat) (x : Value) (e : Value → Bool) (hno : ∀ m (hm : m < items.size), e items[m] = false) :
    Meets (Builtin.«list.remove» ⟨[.ref l, x], []⟩)
      (fun A R s => s.heap.get? l = some { cls := .type "list", dict := none, data := .seq items n, slots := #[] } ∧ (∀ y, y ∈ items → EqAt A.in1 s y x (e y)) ∧ raisesNew "ValueError" A R s) := by
  intro prog w A R s h
  obtain ⟨hp, g, d, tk, os⟩ := s; obtain ⟨hl, he, h⟩ := h
  wp_walk using wpAny_loadPart' hl
  exact ⟨plainId_quiet plain_remove_loop _, codeAny_builtin entry_remove_loop (by
    rw [Around.under_plainId plain_remove_loop _]
    exact remove_loop_noneAt l items n x e hno _ 0 rfl prog w A R _ ⟨hl, he, h⟩)⟩
end
section
open PySem PySem.W PySem.Calls
open PyProof.Rows hiding wpAt wpAt_mono wpAt_bind wpAt_stack strKind
open PySem.W.X (Mem)
set_option Elab.async false
set_option maxRecDepth 100000
set_option maxHeartbeats 2000000
set_option pp.deepTerms false
set_option pp.maxSteps 3000
open LCg
theorem nm_head {h₀ h : Heap} {L a : Addr} {o : Obj} {r : List (Addr × Obj)} (_ : News h₀ L h ((a, o) :: r)) : ∃ x, x = a := ⟨a, rfl⟩
theorem allLt {d : Addr} : ∀ {l : List (Addr × Obj)}, AllLt d l → ∀ p ∈ l, p.1 < d
  | [], _, _, hp => nomatch hp
  | _ :: _, h, p, hp => by
    rcases List.mem_cons.mp hp with rfl | hp
    · exact h.1
    · exact allLt h.2 p hp
theorem pick_upto {vs : List Value} {y : Int} (h : 0 ≤ y) : (slicePick vs.toArray none (some y) none).toList = vs.take y.toNat := by
  have e : sliceBounds none (some y) none vs.toArray.size = (((0 : Nat) : Int), ((min y.toNat vs.toArray.size : Nat) : Int), 1) := by
    simp only [sliceBounds, Option.getD_none, show (1 : Int) > 0 by decide, if_true, if_neg (show ¬ (y < 0) by omega)]
    congr 1
    congr 1
    obtain ⟨k, rfl⟩ := Int.eq_ofNat_of_zero_le h
    rw [Int.toNat_natCast]
    rcases Nat.le_total k vs.toArray.size with e | e
    · rw [Nat.min_eq_left e, Int.min_eq_left (Int.ofNat_le.mpr e), Int.max_eq_right (Int.natCast_nonneg k)]
    · rw [Nat.min_eq_right e, Int.min_eq_right (Int.ofNat_le.mpr e), Int.max_eq_right (Int.natCast_nonneg _)]
  rw [kmk_pick_nat _ e]
  show ((vs.drop 0).take (min y.toNat vs.toArray.size - 0)) = _
  rw [List.drop_zero, Nat.sub_zero, List.size_toArray, kmk_take_min]
section
variable {prog : Program} {w : World} {A : Around} {E : Value → Shared → Prop} {s : Shared} {h₀ : Heap} {L : Addr} {m : Str → Option Value} {env : Env}
theorem app_led {sl : Addr} {sv : List Value} {sn : Nat} {v : Value} {keep : List (Addr × Obj)} {Q : Value → Shared → Prop} (F : Fr h₀ L s.heap m) (N : News h₀ L s.heap ((sl, listOf sv.toArray sn) :: keep)) (hk : ∀ p ∈ keep, p.1 ≠ sl) (hz : sv.length ≤ sizeLine)
    (hq : ∀ h', Fr h₀ L h' m → News h₀ L h' ((sl, listOf (sv ++ [v]).toArray (sn + 1)) :: keep) → Q .none { s with heap := h' }) :
    wpAny (model prog w) A (call (.builtin "list.append") [.ref sl, v]) Q E s := by
  have nl := N _ (.head _)
  refine append_at (hsz := by simpa using hz) nl.1 fun h' hs ho => ?_
  have G := same_grew hs ho
  refine hq h' (grew_fr G F nl.2.1 nl.2.2) fun p hp => ?_
  refine grew_news G F N p (List.mem_append.mpr (.inr ?_))
  rcases List.mem_cons.mp hp with rfl | hp
  · have := upd_mem (o := listOf ((sv ++ [v]).toArray) (sn + 1)) (List.Mem.head keep : (sl, listOf sv.toArray sn) ∈ (sl, listOf sv.toArray sn) :: keep)
    rwa [← List.push_toArray] at this ⊢
  · exact upd_off (.tail _ hp) (hk p hp)
theorem loop_list {x : Str} {body : List Stmt} {Q : Flow → Shared → Prop} {ax : Addr} {its : Array Value} {k : Nat} {m₀ : Str → Option Value} {news : List (Addr × Obj)} (J : Nat → (Str → Option Value) → List (Addr × Obj) → Prop)
    (hh : A.handled = none) (F : Fr h₀ env.locals s.heap m₀) (N : News h₀ env.locals s.heap ((ax, listOf its k) :: news)) (hoff : ∀ p ∈ news, p.1 ≠ ax) (hj : J 0 m₀ news)
    (turn : ∀ i v m₁ nx h tk own, i < its.size → its[i]? = some v → OwnOff own (nx.map (·.1)) → J i m₁ nx → Fr h₀ env.locals h (fun y => if y = x then some v else m₁ y) → News h₀ env.locals h (nx ++ own) →
      wpAny (model prog w) A (execs body env) (InvPostG h₀ env.locals (J (i + 1)) own { s with heap := h, toks := tk } Q) E { s with heap := h, toks := tk })
    (done : ∀ m₁ nx h tk, J its.size m₁ nx → Fr h₀ env.locals h m₁ → News h₀ env.locals h nx → Q .next { s with heap := h, toks := tk }) :
    wpAny (model prog w) A (pyIter (.ref ax)) (fun it s₂ => LoopAtV prog w A h₀ env x body Q E it s₂) E s := by
  have hz := N _ (.head _)
  have hl : s.heap.IsList ax its := ⟨_, hz.1, rfl, _, rfl⟩
  have hlt : ax < s.heap.objs.size := Heap.lt_size hz.1
  refine wpAny_pyIter_list hl ?_
  have W := Walks.list (prog := prog) (w := w) hh s.heap.objs.size ax (Nat.ne_of_lt hlt) its
  have W2 : Walks prog w A s.heap.objs.size [s.heap.objs.size, ax] [s.heap.objs.size, ax] its.size (fun i v => its[i]? = some v) (fun i h => h.IsListIter s.heap.objs.size ax i ∧ h.IsList ax its) :=
    { sub := fun b h => h, frame := W.frame, self := W.self,
      item := fun i s' Q' E' hi st hQ => W.item i s' Q' E' hi st fun v h' tk p st' hk => hQ v h' tk p st' fun b o hb e => hk b o (fun q => hb (by rw [List.mem_singleton.mp q]; exact .head _)) e,
      done := fun s' Q' E' st hQ => W.done s' Q' E' st fun h' tk hk => hQ h' tk fun b o hb e => hk b o (fun q => hb (by rw [List.mem_singleton.mp q]; exact .head _)) e }
  refine kdr_loop J W2 (fun _ h => h) (fun _ h => h) ?_ ?_ ?_ ?_ ⟨⟨_, Heap.get?_push_size _ rfl, rfl, rfl⟩, hl.push _⟩ (F.push _) (fun p hp => ⟨Heap.get?_push_of_some _ (N p (.tail _ hp)).1, (N p (.tail _ hp)).2⟩) hj ?_ ?_
  · rintro i h ⟨⟨o, h1, _⟩, ⟨o2, h2, _⟩⟩ b hb
    rcases List.mem_cons.mp hb with rfl | hb
    · exact ⟨_, h1⟩
    · rw [List.mem_singleton.mp hb]; exact ⟨_, h2⟩
  · intro hm
    rcases List.mem_cons.mp hm with hm | hm
    · exact absurd F.ns.lt (hm ▸ Nat.lt_irrefl _)
    · exact hz.2.1 (List.mem_singleton.mp hm).symm
  · intro b hb
    rcases List.mem_cons.mp hb with rfl | hb
    · exact next_is_new F
    · rw [List.mem_singleton.mp hb]; exact hz.2.2
  · intro p hp hI
    rcases List.mem_cons.mp hI with hI | hI
    · exact absurd (Heap.lt_size (N p (.tail _ hp)).1) (hI ▸ Nat.lt_irrefl _)
    · exact hoff p hp (List.mem_singleton.mp hI)
  · rintro i v m₁ nx h tk own hi hv hoff' hJ F₁ N₁
    exact turn i v m₁ nx h tk own hi hv hoff' hJ F₁ N₁
  · rintro m₁ nx h tk hJ F₁ N₁
    exact done m₁ nx h tk hJ F₁ N₁
structure Fp (h₀ : Heap) (L : Addr) (its : Array Value) (ax I : Addr) (n : Nat) (h : Heap) (m : Str → Option Value) (nx : List (Addr × Obj)) : Prop where
  it : h.IsListIter I ax n
  ls : h.IsList ax its
  fr : Fr h₀ L h m
  nws : News h₀ L h nx
  off : ∀ p ∈ nx, p.1 ≠ I
  il : I ≠ L
  i0 : h₀.get? I = none
  al : ax ≠ L
inductive FpI (s₁ : Shared) (h₀ : Heap) (L : Addr) (its : Array Value) (ax I : Addr) (K : Nat → (Str → Option Value) → List (Addr × Obj) → Prop) : Nat → Shared → Prop
  | mk {h : Heap} {tk i : Nat} {m : Str → Option Value} {nx : List (Addr × Obj)} : i ≤ its.size → Fp h₀ L its ax I i h m nx → K i m nx → FpI s₁ h₀ L its ax I K (its.size + 1 - i) { s₁ with heap := h, toks := tk }
theorem Fp.keeps {h₀ h h' : Heap} {L ax I : Addr} {its : Array Value} {n : Nat} {m : Str → Option Value} {nx : List (Addr × Obj)} (c : Fp h₀ L its ax I n h m nx) (k : ∀ b o, h.get? b = some o → h'.get? b = some o) : Fp h₀ L its ax I n h' m nx :=
  ⟨c.it.at fun o e => k _ o e, c.ls.at fun o e => k _ o e, c.fr.keeps k, c.nws.grown k, c.off, c.il, c.i0, c.al⟩
theorem Fp.set {h₀ h h' : Heap} {L ax I : Addr} {its : Array Value} {n : Nat} {m : Str → Option Value} {nx : List (Addr × Obj)} {x : Str} {v : Value} (c : Fp h₀ L its ax I n h m nx) (hn : h'.Ns L (fun y => if y = x then some v else m y)) (hs : Heap.SameBut L h h') : Fp h₀ L its ax I n h' (fun y => if y = x then some v else m y) nx :=
  ⟨c.it.at fun o e => hs.extBut _ o c.il e, c.ls.at fun o e => hs.extBut _ o c.al e, c.fr.set hn hs, c.nws.set hs, c.off, c.il, c.i0, c.al⟩

theorem fp_loop {target : Expr} {body : List Stmt} {Q : Flow → Shared → Prop} {s₁ : Shared} {ax : Addr} {its : Array Value} {k : Nat} {m₀ : Str → Option Value} {nw : List (Addr × Obj)} (K : Nat → (Str → Option Value) → List (Addr × Obj) → Prop)
    (hh : A.handled = none) (F : Fr h₀ env.locals s₁.heap m₀) (N : News h₀ env.locals s₁.heap nw) (hK : K 0 m₀ nw) (hax : ∀ i m nx, K i m nx → (ax, ({ cls := .type "list", data := .seq its k } : Obj)) ∈ nx) (hE : PassesOwn (model prog w) A env E)
    (turn : ∀ i v I h tk m nx (Z : Shared → Prop) (E₁ E₂ : Value → Shared → Prop), i < its.size → its[i]? = some v → K i m nx → Fp h₀ env.locals its ax I (i + 1) h m nx →
      (∀ h' tk' m' nx', Fp h₀ env.locals its ax I (i + 1) h' m' nx' →
        (∀ h tk own, OwnOff own (nx'.map (·.1)) → Fr h₀ env.locals h m' → News h₀ env.locals h (nx' ++ own) → wpAny (model prog w) A (execs body env) (InvPostG h₀ env.locals (K (i + 1)) own { s₁ with heap := h, toks := tk } Q) E { s₁ with heap := h, toks := tk }) → Z { s₁ with heap := h', toks := tk' }) →
      wpAny (model prog w) A (letOwnedTupleGo target (.ref I) v) (fun _ s' => wpAny (model prog w) A (assign target env v) (fun _ s'' => Z s'') E₂ s') E₁ { s₁ with heap := h, toks := tk })
    (done : ∀ m₁ nx h tk, K its.size m₁ nx → Fr h₀ env.locals h m₁ → News h₀ env.locals h nx → Q .next { s₁ with heap := h, toks := tk }) :
    wpAny (model prog w) A (pyIter (.ref ax)) (fun it s₂ => codeAny (model prog w) A (.forLoop target it body [] env) (fun r s' => match r with | .ok f => Q f s' | .error e => cameBackBy (model prog w) A env E e s') s₂) E s₁ := by
  have hz := N _ (hax _ _ _ hK)
  have hl : s₁.heap.IsList ax its := ⟨_, hz.1, rfl, _, rfl⟩
  have hlt : ax < s₁.heap.objs.size := Heap.lt_size hz.1
  refine wpAny_pyIter_list hl ?_
  have W := Walks.list (prog := prog) (w := w) hh s₁.heap.objs.size ax (Nat.ne_of_lt hlt) its
  have c : Fp h₀ env.locals its ax s₁.heap.objs.size 0 (s₁.heap.push { cls := .type "list_iterator", data := .fields #[.ref ax, .int 0 0] }) m₀ nw :=
    ⟨⟨_, Heap.get?_push_size _ rfl, rfl, rfl⟩, hl.push _, F.keeps fun b o e => Heap.get?_push_of_some _ e, N.grown fun b o e => Heap.get?_push_of_some _ e, fun p hp => Nat.ne_of_lt (Heap.lt_size (N p hp).1), (Nat.ne_of_lt F.ns.lt).symm, next_is_new F, hz.2.1⟩
  generalize s₁.heap.push { cls := .type "list_iterator", data := .fields #[.ref ax, .int 0 0] } = H1 at *
  generalize s₁.heap.objs.size = I at *
  refine codeAny_forLoop_any (R := fun r s' => match r with | .ok f => Q f s' | .error e => cameBackBy (model prog w) A env E e s') (FpI s₁ h₀ env.locals its ax I K) ?_ (its.size + 1) (.mk (i := 0) (Nat.zero_le _) c hK)
  clear c hK F N hl hlt hz
  rintro _ _ @⟨h, tk, i, m, nx, hi, c, hK⟩
  have but : ∀ h' : Heap, (∀ b o, b ∉ [I] → h.get? b = some o → h'.get? b = some o) → Fr h₀ env.locals h' m ∧ News h₀ env.locals h' nx := fun h' hk => ⟨fr_but c.fr hk c.il.symm c.i0, news_but c.nws hk c.off⟩
  rcases Nat.lt_or_ge i its.size with hlt | hge
  · refine W.item i _ _ _ hlt ⟨c.it, c.ls⟩ fun v h₂ tk₂ hv hst hk => ?_
    obtain ⟨F₂, N₂⟩ := but h₂ hk
    refine turn i v I h₂ tk₂ m nx _ _ _ hlt hv hK ⟨hst.1, hst.2, F₂, N₂, c.off, c.il, c.i0, c.al⟩ fun h7 tk7 m7 nx7 c7 R => ?_
    obtain ⟨oI, heI, hoI⟩ := c7.it
    refine wpAny_mono (wpAny_passesOwn hE (R h7 tk7 [(I, oI)] ?_ c7.fr ?_)) (fun f s₃ h₃ => ?_) fun _ _ e => e
    · intro p hp b hb e
      obtain ⟨q, hq, rfl⟩ := List.mem_map.mp hb
      rw [List.mem_singleton.mp hp] at e
      exact c7.off q hq e.symm
    · intro p hp
      rcases List.mem_append.mp hp with hp | hp
      · exact c7.nws p hp
      · rw [List.mem_singleton.mp hp]; exact ⟨heI, c7.il, c7.i0⟩
    · have fin : ∀ tkx, InvEndG h₀ env.locals (K (i + 1)) [(I, oI)] { s₁ with heap := h7, toks := tkx } s₃ → ∃ n, n < its.size + 1 - i ∧ FpI s₁ h₀ env.locals its ax I K n s₃ := by
        rintro tkx ⟨h9, tk9, m9, news9, nx9, rfl, F9, N9, s9, o9, off9, J9⟩
        refine ⟨its.size + 1 - (i + 1), Nat.sub_lt_sub_left (Nat.lt_succ_of_lt hlt) (Nat.lt_succ_self i), .mk hlt ⟨⟨oI, (N9 _ (o9 _ (.head _))).1, hoI⟩, ⟨_, (N9 _ (s9 _ (hax _ _ _ J9))).1, rfl, _, rfl⟩, F9, fun p hp => N9 p (s9 p hp), fun p hp e => ?_, c.il, c.i0, c.al⟩ J9⟩
        exact off9 _ (.head _) _ (List.mem_map.mpr ⟨p, hp, rfl⟩) e.symm
      cases f with
      | next => exact fin _ h₃
      | cont => exact fin _ h₃
      | brk => exact h₃
      | ret v => exact h₃
  · obtain rfl : i = its.size := Nat.le_antisymm hi hge
    refine W.done _ _ _ ⟨c.it, c.ls⟩ fun h₂ tk₂ hk => wpAny_execs_nil ?_
    obtain ⟨F₂, N₂⟩ := but h₂ hk
    exact done m nx h₂ tk₂ hK F₂ N₂
end
end
section
open PySem PySem.W PySem.Calls
open PyProof.Rows hiding wpAt wpAt_mono wpAt_bind wpAt_stack strKind
open PySem.W.X (Mem)
set_option Elab.async false
set_option maxRecDepth 100000
set_option maxHeartbeats 2000000
set_option pp.deepTerms false
set_option pp.maxSteps 3000
section
variable {α : Type} [BEq α] [LawfulBEq α] [DecidableEq α]
def dec (c : α → Nat) (x : α) : α → Nat := fun y => if y = x then c y - 1 else c y
def inc (c : α → Nat) (x : α) : α → Nat := fun y => if y = x then c y + 1 else c y

def leftC : List α → (α → Nat) → List α
  | [], _ => []
  | x :: r, c => if 0 < c x then leftC r (dec c x) else x :: leftC r c
theorem leftC_cons (x : α) (r : List α) (c : α → Nat) : leftC (x :: r) c = if 0 < c x then leftC r (dec c x) else x :: leftC r c := rfl
theorem leftC_congr {l : List α} {c c' : α → Nat} (h : ∀ x ∈ l, c x = c' x) : leftC l c = leftC l c' := by
  induction l generalizing c c' with
  | nil => rfl
  | cons x r ih =>
    rw [leftC_cons, leftC_cons, h x (.head _)]
    have h1 : leftC r (dec c x) = leftC r (dec c' x) := ih fun y hy => by unfold dec; rw [h y (.tail _ hy)]
    have h2 : leftC r c = leftC r c' := ih fun y hy => h y (.tail _ hy)
    rw [h1, h2]
theorem leftC_erase {l : List α} {c : α → Nat} {x : α} (h : x ∈ l) : leftC (l.erase x) c = leftC l (inc c x) := by
  induction l generalizing c with
  | nil => cases h
  | cons y r ih =>
    by_cases e : y = x
    · subst e
      rw [List.erase_cons_head]
      rw [leftC_cons, if_pos (show 0 < inc c y y by simp [inc])]
      congr 1
      funext z
      by_cases e : z = y <;> simp [dec, inc, e]
    · have hx : x ∈ r := by
        rcases List.mem_cons.mp h with h | h
        · exact absurd h.symm e
        · exact h
      rw [List.erase_cons_tail (by simpa using e)]
      rw [leftC_cons, leftC_cons]
      have e1 : inc c x y = c y := by simp [inc, e]
      rw [e1, ih hx, ih hx]
      have e2 : inc (dec c y) x = dec (inc c x) y := by
        funext z
        by_cases a : z = x
        · subst a
          have : ¬ z = y := fun q => e q.symm
          simp [inc, dec, this]
        · by_cases b : z = y <;> simp [inc, dec, a, b, e]
      rw [e2]

def diffR : List α → List α → List α × List α
  | [], a => ([], a)
  | x :: r, a => if x ∈ a then diffR r (a.erase x) else (x :: (diffR r a).1, (diffR r a).2)
theorem diffR_eq (es a : List α) : diffR es a = (leftC es (fun x => a.count x), leftC a (fun x => es.count x)) := by
  induction es generalizing a with
  | nil =>
    show (([] : List α), a) = ([], leftC a (fun x => ([] : List α).count x))
    have : ∀ l : List α, leftC l (fun x => ([] : List α).count x) = l := by
      intro l
      induction l with
      | nil => rfl
      | cons x r ih => rw [leftC_cons, if_neg (by simp), ih]
    rw [this]
  | cons x r ih =>
    unfold diffR
    by_cases h : x ∈ a
    · rw [if_pos h, ih]
      rw [leftC_cons, if_pos (List.count_pos_iff.mpr h), leftC_erase h]
      congr 1
      · congr 1
        funext z
        by_cases e : z = x
        · subst e; simp [dec, List.count_erase_self]
        · simp only [dec, if_neg e]; rw [List.count_erase_of_ne]; exact fun q => e q
      · congr 1
        funext z
        by_cases e : z = x
        · subst e; simp [inc]
        · simp only [inc, if_neg e]; rw [List.count_cons_of_ne]; exact fun q => e q.symm
    · rw [if_neg h, ih]
      rw [leftC_cons, if_neg (by rw [List.count_eq_zero_of_not_mem h]; omega)]
      congr 1
      refine leftC_congr fun y hy => ?_
      rw [List.count_cons_of_ne]
      exact fun q => h (q ▸ hy)
theorem leftC_nil {l : List α} {c : α → Nat} (h : ∀ x, l.count x ≤ c x) : leftC l c = [] := by
  induction l generalizing c with
  | nil => rfl
  | cons x r ih =>
    rw [leftC_cons]
    have hx := h x
    rw [List.count_cons_self] at hx
    rw [if_pos (by omega)]
    refine ih fun y => ?_
    unfold dec
    by_cases e : y = x
    · subst e; rw [if_pos rfl]; omega
    · rw [if_neg e]
      have hy := h y
      rwa [List.count_cons_of_ne (fun q => e q.symm)] at hy
theorem leftC_all {l : List α} {c : α → Nat} (h : ∀ x ∈ l, c x = 0) : leftC l c = l := by
  induction l generalizing c with
  | nil => rfl
  | cons x r ih =>
    rw [leftC_cons, if_neg (by rw [h x (.head _)]; omega), ih fun y hy => h y (.tail _ hy)]
theorem leftC_append {l₁ l₂ : List α} {c : α → Nat} : leftC (l₁ ++ l₂) c = leftC l₁ c ++ leftC l₂ (fun x => c x - l₁.count x) := by
  induction l₁ generalizing c with
  | nil => simp [leftC]
  | cons x r ih =>
    rw [List.cons_append, leftC_cons, leftC_cons]
    by_cases h : 0 < c x
    · rw [if_pos h, if_pos h, ih]
      congr 2
      funext z
      by_cases e : z = x
      · subst e; simp only [dec, if_pos, List.count_cons_self]; omega
      · simp only [dec, if_neg e]; rw [List.count_cons_of_ne (fun q => e q.symm)]
    · rw [if_neg h, if_neg h, ih, List.cons_append]
      congr 3
      funext z
      by_cases e : z = x
      · subst e; simp only [List.count_cons_self]; omega
      · rw [List.count_cons_of_ne (fun q => e q.symm)]

theorem leftC_idx (l kept : List α) (f : Nat → α) (hf : ∀ i (h : i < l.length), f i = l[i]) : leftC l (fun x => kept.count x) = ((List.range l.length).filter fun i => decide (kept.count (f i) < (l.take (i + 1)).count (f i))).map f := by
  have key : ∀ n, n ≤ l.length → leftC (l.take n) (fun x => kept.count x) = ((List.range n).filter fun i => decide (kept.count (f i) < (l.take (i + 1)).count (f i))).map f := by
    intro n
    induction n with
    | zero => intro _; rw [List.take_zero]; rfl
    | succ n ih =>
      intro hn
      have hg : l[n]? = some (f n) := by rw [hf n (by omega)]; exact List.getElem?_eq_getElem (by omega)
      rw [List.take_add_one, hg, List.range_succ, List.filter_append, List.map_append, ← ih (by omega)]
      simp only [Option.toList_some]
      rw [leftC_append]
      congr 1
      rw [List.filter_cons, List.filter_nil, List.take_add_one, hg]
      simp only [Option.toList_some, List.count_append, List.count_singleton_self]
      rw [leftC_cons]
      by_cases c : kept.count (f n) < (l.take n).count (f n) + 1
      · rw [if_neg (by show ¬ 0 < kept.count (f n) - (l.take n).count (f n); omega), if_pos (decide_eq_true c)]; rfl
      · rw [if_pos (by show 0 < kept.count (f n) - (l.take n).count (f n); omega), if_neg (by simpa using c)]; rfl
  rw [← key l.length (Nat.le_refl _), List.take_length]
end
end
section
open PySem PySem.W PySem.Calls
open PyProof.Rows hiding wpAt wpAt_mono wpAt_bind wpAt_stack strKind
open PySem.W.X (Mem)
set_option Elab.async false
set_option maxRecDepth 100000
set_option maxHeartbeats 2000000
set_option pp.deepTerms false
set_option pp.maxSteps 3000
open LCg PySem.SeqAt
theorem fits_long {i : Int} (h1 : 0 ≤ i) (h2 : i ≤ 1001) : Builtin.Range.rangeFitsLong i = true := by
  unfold Builtin.Range.rangeFitsLong
  rw [Bool.and_eq_true]
  exact ⟨decide_eq_true (by omega), decide_eq_true (by omega)⟩
theorem range_fit {n : Nat} (h : n ≤ 1000) : Builtin.Range.small 0 (n : Int) 1 = true ∧ Builtin.Range.rangeSize 0 (n : Int) 1 = (n : Int) := by
  have e : Builtin.Range.rangeSize 0 (n : Int) 1 = (n : Int) := by
    unfold Builtin.Range.rangeSize
    rw [if_pos (by decide)]
    by_cases c : (0 : Int) < (n : Int)
    · rw [if_pos c, Int.ediv_one]; omega
    · rw [if_neg c]; omega
  refine ⟨?_, e⟩
  unfold Builtin.Range.small
  rw [e, fits_long (by omega) (by omega), fits_long (i := (n : Int)) (by omega) (by omega), fits_long (i := 1) (by omega) (by omega), if_pos (by decide), fits_long (i := (n : Int) + (1 - 1)) (by omega) (by omega), Bool.or_true]
  rfl
abbrev Pr := Str × Str
def rowD (r : Pr) : PyData := .list [.str r.1, .str r.2]
def rowsD (rs : List Pr) : PyData := .list (rs.map rowD)
def txtD (ws : List Str) : PyData := .list (ws.map .str)
def seenD (ts : List (List Str)) : PyData := .list (ts.map txtD)
def tabRD (r : Str × List Str) : PyData := .tuple [.str r.1, txtD r.2]
def tabD (t : Tab) : PyData := .list (t.map tabRD)
theorem eqvAll_map {α : Type} [DecidableEq α] (f : α → PyData) (hf : ∀ a b, PyData.eqv (f a) (f b) = decide (a = b)) : ∀ xs ys : List α, PyData.eqvAll (xs.map f) (ys.map f) = decide (xs = ys)
  | [], [] => by simp [PyData.eqvAll]
  | [], _ :: _ => by simp [PyData.eqvAll]
  | _ :: _, [] => by simp [PyData.eqvAll]
  | a :: r, b :: t => by
    simp only [List.map_cons, PyData.eqvAll, hf, eqvAll_map f hf r t]
    by_cases h : a = b <;> by_cases h' : r = t <;> simp [h, h']
theorem eqv_str (a b : Str) : PyData.eqv (.str a) (.str b) = decide (a = b) := by
  unfold PyData.eqv
  by_cases h : a = b
  · simp [h]
  · simp [h]
theorem eqv_row (a b : Pr) : PyData.eqv (rowD a) (rowD b) = decide (a = b) := by
  unfold rowD
  simp only [PyData.eqv, PyData.eqvAll]
  obtain ⟨a1, a2⟩ := a
  obtain ⟨b1, b2⟩ := b
  by_cases h : a1 = b1 <;> by_cases h' : a2 = b2 <;> simp [h, h', Prod.mk.injEq]
theorem eqv_rows (a b : List Pr) : PyData.eqv (rowsD a) (rowsD b) = decide (a = b) := by
  unfold rowsD; simp only [PyData.eqv]; exact eqvAll_map rowD eqv_row a b
theorem eqv_txt (a b : List Str) : PyData.eqv (txtD a) (txtD b) = decide (a = b) := by
  unfold txtD; simp only [PyData.eqv]; exact eqvAll_map _ eqv_str a b
theorem eqv_seen (a b : List (List Str)) : PyData.eqv (seenD a) (seenD b) = decide (a = b) := by
  unfold seenD; simp only [PyData.eqv]; exact eqvAll_map _ eqv_txt a b
theorem eqv_tabR (a b : Str × List Str) : PyData.eqv (tabRD a) (tabRD b) = decide (a = b) := by
  unfold tabRD
  simp only [PyData.eqv, PyData.eqvAll, eqv_txt]
  obtain ⟨a1, a2⟩ := a
  obtain ⟨b1, b2⟩ := b
  by_cases h : a1 = b1 <;> by_cases h' : a2 = b2 <;> simp [h, h', Prod.mk.injEq]
theorem eqv_tab (a b : Tab) : PyData.eqv (tabD a) (tabD b) = decide (a = b) := by
  unfold tabD; simp only [PyData.eqv]; exact eqvAll_map _ eqv_tabR a b
def okS (x : Str) : Prop := PyData.strOk x = true
def okP (r : Pr) : Prop := okS r.1 ∧ okS r.2
def okTR (r : Str × List Str) : Prop := okS r.1 ∧ ∀ x ∈ r.2, okS x
theorem lay_map {α : Type} (f : α → PyData) : ∀ (xs : List α) (_ : ∀ a ∈ xs, (f a).canLay0 = true), PyData.canLayAll0 (xs.map f) = true
  | [], _ => by simp [PyData.canLayAll0]
  | a :: r, hf => by simp [PyData.canLayAll0, hf a (.head _), lay_map f r fun b hb => hf b (.tail _ hb)]
theorem dep_map {α : Type} (f : α → PyData) (n : Nat) (hf : ∀ a, (f a).depth ≤ n) : ∀ xs : List α, PyData.depthAll (xs.map f) ≤ n
  | [] => by simp [PyData.depthAll]
  | a :: r => by
    have := dep_map f n hf r
    have := hf a
    simp only [List.map_cons, PyData.depthAll]
    omega
theorem lay_str {x : Str} (h : okS x) : (PyData.str x).canLay0 = true := by simp only [PyData.canLay0]; exact h
theorem lay_row {a : Pr} (h : okP a) : (rowD a).canLay0 = true := by simp only [rowD, PyData.canLay0, PyData.canLayAll0]; rw [show PyData.strOk a.1 = true from h.1, show PyData.strOk a.2 = true from h.2]; rfl
theorem dep_row (a : Pr) : (rowD a).depth ≤ 1 := by simp [rowD, PyData.depth, PyData.depthAll]
theorem lay_rows {a : List Pr} (h : ∀ r ∈ a, okP r) : (rowsD a).canLay0 = true := by simp only [rowsD, PyData.canLay0]; exact lay_map _ a fun r hr => lay_row (h r hr)
theorem dep_rows (a : List Pr) : (rowsD a).depth ≤ 2 := by simp only [rowsD, PyData.depth]; have := dep_map _ 1 dep_row a; omega
theorem lay_txt {a : List Str} (h : ∀ x ∈ a, okS x) : (txtD a).canLay0 = true := by simp only [txtD, PyData.canLay0]; exact lay_map _ a fun r hr => lay_str (h r hr)
theorem dep_txt (a : List Str) : (txtD a).depth ≤ 1 := by simp only [txtD, PyData.depth]; have := dep_map PyData.str 0 (fun _ => by simp [PyData.depth]) a; omega
theorem lay_seen {a : List (List Str)} (h : ∀ t ∈ a, ∀ x ∈ t, okS x) : (seenD a).canLay0 = true := by simp only [seenD, PyData.canLay0]; exact lay_map _ a fun r hr => lay_txt (h r hr)
theorem dep_seen (a : List (List Str)) : (seenD a).depth ≤ 2 := by simp only [seenD, PyData.depth]; have := dep_map _ 1 dep_txt a; omega
theorem lay_tabR {a : Str × List Str} (h : okTR a) : (tabRD a).canLay0 = true := by simp only [tabRD, PyData.canLay0, PyData.canLayAll0]; rw [show PyData.strOk a.1 = true from h.1, lay_txt h.2]; rfl
theorem dep_tabR (a : Str × List Str) : (tabRD a).depth ≤ 2 := by
  have := dep_txt a.2
  simp only [tabRD, PyData.depth, PyData.depthAll]; omega
theorem lay_tab {a : Tab} (h : ∀ r ∈ a, okTR r) : (tabD a).canLay0 = true := by simp only [tabD, PyData.canLay0]; exact lay_map _ a fun r hr => lay_tabR (h r hr)
theorem dep_tab (a : Tab) : (tabD a).depth ≤ 3 := by simp only [tabD, PyData.depth]; have := dep_map _ 2 dep_tabR a; omega
def RowV (o : List (Addr × Obj)) (v : Value) (r : Pr) : Prop := ∃ a t1 t2 k, v = .ref a ∧ (a, listOf #[.str r.1 t1, .str r.2 t2] k) ∈ o
inductive RowsV (o : List (Addr × Obj)) : List Value → List Pr → Prop
  | nil : RowsV o [] []
  | cons {v : Value} {r : Pr} {vs : List Value} {rs : List Pr} : RowV o v r → RowsV o vs rs → RowsV o (v :: vs) (r :: rs)
theorem RowV.mono {o o' : List (Addr × Obj)} (h : ∀ p ∈ o, p ∈ o') {v : Value} {r : Pr} (x : RowV o v r) : RowV o' v r := by
  obtain ⟨a, t1, t2, k, e, m⟩ := x
  exact ⟨a, t1, t2, k, e, h _ m⟩
theorem RowsV.mono {o o' : List (Addr × Obj)} (h : ∀ p ∈ o, p ∈ o') {vs : List Value} {rs : List Pr} (y : RowsV o vs rs) : RowsV o' vs rs := by
  induction y with
  | nil => exact .nil
  | cons x _ ih => exact .cons (x.mono h) ih
theorem RowsV.snoc {o : List (Addr × Obj)} {vs : List Value} {rs : List Pr} {v : Value} {r : Pr} (y : RowsV o vs rs) (x : RowV o v r) : RowsV o (vs ++ [v]) (rs ++ [r]) := by
  induction y with
  | nil => exact .cons x .nil
  | cons z _ ih => exact .cons z ih
theorem RowsV.length {o : List (Addr × Obj)} {vs : List Value} {rs : List Pr} (y : RowsV o vs rs) : vs.length = rs.length := by
  induction y with
  | nil => rfl
  | cons _ _ ih => rw [List.length_cons, List.length_cons, ih]
theorem RowsV.take {o : List (Addr × Obj)} {vs : List Value} {rs : List Pr} (y : RowsV o vs rs) (i : Nat) : RowsV o (vs.take i) (rs.take i) := by
  induction y generalizing i with
  | nil => rw [List.take_nil, List.take_nil]; exact .nil
  | cons a _ ih =>
    cases i with
    | zero => exact .nil
    | succ i => exact .cons a (ih i)
theorem RowsV.append {o : List (Addr × Obj)} {vs us : List Value} {rs ss : List Pr} (y : RowsV o vs rs) (z : RowsV o us ss) : RowsV o (vs ++ us) (rs ++ ss) := by
  induction y with
  | nil => exact z
  | cons x _ ih => exact .cons x ih
theorem RowsV.reverse {o : List (Addr × Obj)} {vs : List Value} {rs : List Pr} (y : RowsV o vs rs) : RowsV o vs.reverse rs.reverse := by
  induction y with
  | nil => exact .nil
  | cons x _ ih => rw [List.reverse_cons, List.reverse_cons]; exact ih.snoc x
theorem RowsV.get {o : List (Addr × Obj)} {vs : List Value} {rs : List Pr} (y : RowsV o vs rs) {i : Nat} (hi : i < rs.length) : ∃ v, vs[i]? = some v ∧ RowV o v (rs[i]'hi) := by
  induction y generalizing i with
  | nil => exact absurd hi (Nat.not_lt_zero _)
  | cons x _ ih =>
    cases i with
    | zero => exact ⟨_, rfl, x⟩
    | succ i => exact ih (Nat.lt_of_succ_lt_succ hi)
theorem RowsV.unsnoc {o : List (Addr × Obj)} {vs : List Value} {v : Value} {rs : List Pr} (y : RowsV o (vs ++ [v]) rs) : ∃ rs' r, rs = rs' ++ [r] ∧ RowsV o vs rs' ∧ RowV o v r := by
  induction vs generalizing rs with
  | nil =>
    cases y with
    | cons x z => cases z; exact ⟨[], _, rfl, .nil, x⟩
  | cons a t ih =>
    rw [List.cons_append] at y
    cases y with
    | cons x z =>
      obtain ⟨rs', r, rfl, h1, h2⟩ := ih z
      exact ⟨_ :: rs', r, rfl, .cons x h1, h2⟩
section
variable {h₀ h : Heap} {L : Addr} {o : List (Addr × Obj)}
theorem RowV.uniq (N : News h₀ L h o) {v : Value} {r r' : Pr} (x : RowV o v r) (y : RowV o v r') : r = r' := by
  obtain ⟨a, t1, t2, k, rfl, m⟩ := x
  obtain ⟨a', t1', t2', k', e, m'⟩ := y
  cases e
  have e := (N _ m).1.symm.trans (N _ m').1
  have e := congrArg Obj.data (Option.some.inj e)
  injection e with e1 e2
  have e3 := congrArg Array.toList e1
  simp at e3
  obtain ⟨⟨e4, _⟩, e5, _⟩ := e3
  exact Prod.ext e4 e5
theorem RowV.reads (N : News h₀ L h o) {v : Value} {r : Pr} (x : RowV o v r) : ∃ as, Reads h v (rowD r) as := by
  obtain ⟨a, t1, t2, k, rfl, m⟩ := x
  exact ⟨_, Reads.list (N _ m).1 rfl rfl (ReadsAll.cons (Reads.str _ _) (ReadsAll.cons (Reads.str _ _) ReadsAll.nil))⟩
theorem RowsV.readsAll (N : News h₀ L h o) {vs : List Value} {rs : List Pr} (x : RowsV o vs rs) : ∃ as, ReadsAll h vs (rs.map rowD) as := by
  induction x with
  | nil => exact ⟨_, .nil⟩
  | cons y _ ih =>
    obtain ⟨as, h1⟩ := y.reads N
    obtain ⟨bs, h2⟩ := ih
    exact ⟨_, .cons h1 h2⟩
theorem rows_reads (N : News h₀ L h o) {l : Addr} {vs : List Value} {n : Nat} {rs : List Pr} (hm : (l, listOf vs.toArray n) ∈ o) (x : RowsV o vs rs) : ∃ as, Reads h (.ref l) (rowsD rs) as := by
  obtain ⟨as, h1⟩ := x.readsAll N
  exact ⟨_, Reads.list (N _ hm).1 rfl rfl h1⟩
theorem strs_reads {vs : List Value} {ws : List Str} (x : StrsAre vs ws) : ∃ as, ReadsAll h vs (ws.map .str) as := by
  induction x with
  | nil => exact ⟨_, .nil⟩
  | cons y t _ ih =>
    obtain ⟨bs, h2⟩ := ih
    exact ⟨_, .cons (Reads.str _ _) h2⟩
theorem TxtAt.reads (N : News h₀ L h o) {v : Value} {ws : List Str} (x : TxtAt o v ws) : ∃ as, Reads h v (txtD ws) as := by
  obtain ⟨a, vs, n, rfl, m, hs⟩ := x
  obtain ⟨as, h1⟩ := strs_reads hs
  exact ⟨_, Reads.list (N _ m).1 rfl rfl h1⟩
theorem TxtsAt.readsAll (N : News h₀ L h o) {vs : List Value} {ts : List (List Str)} (x : TxtsAt o vs ts) : ∃ as, ReadsAll h vs (ts.map txtD) as := by
  induction x with
  | nil => exact ⟨_, .nil⟩
  | cons y _ ih =>
    obtain ⟨as, h1⟩ := y.reads N
    obtain ⟨bs, h2⟩ := ih
    exact ⟨_, .cons h1 h2⟩
theorem seen_reads (N : News h₀ L h o) {l : Addr} {vs : List Value} {n : Nat} {ts : List (List Str)} (hm : (l, listOf vs.toArray n) ∈ o) (x : TxtsAt o vs ts) : ∃ as, Reads h (.ref l) (seenD ts) as := by
  obtain ⟨as, h1⟩ := x.readsAll N
  exact ⟨_, Reads.list (N _ hm).1 rfl rfl h1⟩
theorem TRowIn.reads (N : News h₀ L h o) {v : Value} {r : Str × List Str} (x : TRowIn o v r) : ∃ as, Reads h v (tabRD r) as := by
  obtain ⟨a, t, la, k, rfl, m, hx⟩ := x
  obtain ⟨as, h1⟩ := hx.reads N
  exact ⟨_, Reads.tuple (N _ m).1 rfl rfl (ReadsAll.cons (Reads.str _ _) (ReadsAll.cons h1 ReadsAll.nil))⟩
theorem TRowsAre.readsAll (N : News h₀ L h o) {vs : List Value} {ts : Tab} (x : TRowsAre o vs ts) : ∃ as, ReadsAll h vs (ts.map tabRD) as := by
  induction x with
  | nil => exact ⟨_, .nil⟩
  | cons y _ ih =>
    obtain ⟨as, h1⟩ := y.reads N
    obtain ⟨bs, h2⟩ := ih
    exact ⟨_, .cons h1 h2⟩
theorem tab_reads (N : News h₀ L h o) {v : Value} {t : Tab} (x : TabIn o v t) : ∃ as, Reads h v (tabD t) as := by
  obtain ⟨l, vs, n, rfl, m, hx⟩ := x
  obtain ⟨as, h1⟩ := hx.readsAll N
  exact ⟨_, Reads.list (N _ m).1 rfl rfl h1⟩
end
open Classical in

noncomputable def isRow (o : List (Addr × Obj)) (x : Pr) (v : Value) : Bool := decide (RowV o v x)
section
variable {h₀ : Heap} {L : Addr} {o : List (Addr × Obj)} {s : Shared}
theorem isRow_eq (N : News h₀ L s.heap o) {v : Value} {r x : Pr} (y : RowV o v r) : isRow o x v = decide (r = x) := by
  unfold isRow
  by_cases c : r = x
  · subst c; rw [decide_eq_true rfl]; exact @decide_eq_true _ (Classical.propDecidable _) y
  · rw [decide_eq_false c]; exact @decide_eq_false _ (Classical.propDecidable _) fun z => c (y.uniq N z)
theorem row_eqAt {A : Around} (N : News h₀ L s.heap o) {v u : Value} {r x : Pr} (y : RowV o v r) (z : RowV o u x) (hr : okP r) (hx : okP x) (hu : A.units + 64 < cLine) : EqAt A.in1 s v u (isRow o x v) := by
  rw [isRow_eq N y, ← eqv_row]
  obtain ⟨as, h1⟩ := y.reads N
  obtain ⟨bs, h2⟩ := z.reads N
  refine eqAt_reads _ _ _ _ _ _ _ _ h1 h2 (lay_row hr) (lay_row hx) ?_
  have := dep_row r
  have : A.in1.units ≤ A.units + 1 := Nat.le_of_eq (by simp)
  omega
theorem count_isRow (N : News h₀ L s.heap o) {vs : List Value} {rs : List Pr} {x : Pr} (y : RowsV o vs rs) : vs.countP (isRow o x) = rs.count x := by
  induction y with
  | nil => rfl
  | @cons v r vs rs a _ ih =>
    rw [List.countP_cons, List.count_cons, ih, isRow_eq N a]
    congr 1
    by_cases c : r = x <;> simp [c]
theorem first_ix (N : News h₀ L s.heap o) {vs : List Value} {rs : List Pr} {x : Pr} (y : RowsV o vs rs) (hx : x ∈ rs) :
    ∃ j, ∃ hj : j < vs.length, isRow o x vs[j] = true ∧ (∀ m (hm : m < vs.length), m < j → isRow o x vs[m] = false) ∧ RowsV o (vs.eraseIdx j) (rs.erase x) := by
  induction y with
  | nil => cases hx
  | @cons v r vs rs a b ih =>
    by_cases c : r = x
    · subst c
      refine ⟨0, Nat.zero_lt_succ _, ?_, fun m _ h => absurd h (Nat.not_lt_zero _), ?_⟩
      · show isRow o r v = true
        rw [isRow_eq N a]; exact decide_eq_true rfl
      · rw [List.eraseIdx_cons_zero, List.erase_cons_head]; exact b
    · have hx' : x ∈ rs := by
        rcases List.mem_cons.mp hx with h | h
        · exact absurd h.symm c
        · exact h
      obtain ⟨j, hj, h1, h2, h3⟩ := ih hx'
      refine ⟨j + 1, Nat.succ_lt_succ hj, h1, fun m hm hlt => ?_, ?_⟩
      · cases m with
        | zero => show isRow o x v = false; rw [isRow_eq N a]; exact decide_eq_false c
        | succ m => exact h2 m (Nat.lt_of_succ_lt_succ hm) (Nat.lt_of_succ_lt_succ hlt)
      · rw [List.eraseIdx_cons_succ, List.erase_cons_tail (by simpa using c)]; exact .cons a h3
theorem RowsV.mem {vs : List Value} {rs : List Pr} (y : RowsV o vs rs) {v : Value} (hv : v ∈ vs) : ∃ r ∈ rs, RowV o v r := by
  induction y with
  | nil => cases hv
  | cons a _ ih =>
    rcases List.mem_cons.mp hv with rfl | hv
    · exact ⟨_, .head _, a⟩
    · obtain ⟨r, h1, h2⟩ := ih hv; exact ⟨r, .tail _ h1, h2⟩
end
section
variable {prog : Program} {w : World} {A : Around} {E : Value → Shared → Prop} {s : Shared} {h₀ : Heap} {L : Addr} {m : Str → Option Value}
theorem count_led {o : List (Addr × Obj)} {l : Addr} {vs : List Value} {n : Nat} {rs : List Pr} {u : Value} {x : Pr} {Q : Value → Shared → Prop} (N : News h₀ L s.heap o) (hm : (l, listOf vs.toArray n) ∈ o) (y : RowsV o vs rs) (z : RowV o u x) (hok : ∀ r ∈ rs, okP r) (hxk : okP x) (hu : A.units + 64 < cLine)
    (hq : Q (.int (rs.count x : Nat) s.toks) { s with toks := s.toks + 1 }) : wpAny (model prog w) A (call (.builtin "list.count") [.ref l, u]) Q E s := by
  refine call_meets PySem.F.slot_list_count ⟨_, (N _ hm).1, rfl⟩ PySem.F.entry_list_count (PySem.F.args_list_count_2 _ _) (list_countAt l vs.toArray n none #[] u (isRow o x)) ⟨(N _ hm).1, fun v hv => ?_, ?_⟩
  · obtain ⟨r, h1', h2⟩ := y.mem (by simpa using hv)
    exact row_eqAt N h2 z (hok r h1') hxk hu
  · rw [show vs.toArray.toList = vs from rfl, count_isRow N y]
    exact hq
theorem remove_led {o keep : List (Addr × Obj)} {l : Addr} {vs : List Value} {n : Nat} {rs : List Pr} {u : Value} {x : Pr} {Q : Value → Shared → Prop} (F : Fr h₀ L s.heap m) (N : News h₀ L s.heap ((l, listOf vs.toArray n) :: keep)) (hk : ∀ p ∈ keep, p.1 ≠ l) (ho : ∀ p ∈ o, p ∈ keep) (y : RowsV o vs rs) (z : RowV o u x) (hok : ∀ r ∈ rs, okP r) (hxk : okP x) (hu : A.units + 64 < cLine) (hz : vs.length ≤ sizeLine) (hx : x ∈ rs)
    (hq : ∀ h' vs', Fr h₀ L h' m → News h₀ L h' ((l, listOf (List.toArray vs') (n + 1)) :: keep) → RowsV o vs' (rs.erase x) → vs'.length + 1 = vs.length → Q .none { s with heap := h' }) : wpAny (model prog w) A (call (.builtin "list.remove") [.ref l, u]) Q E s := by
  have N0 : News h₀ L s.heap o := fun p hp => N p (.tail _ (ho p hp))
  obtain ⟨j, hj, h1, h2, h3⟩ := first_ix N0 y hx
  have nl := N _ (.head _)
  refine call_meets PySem.F.slot_list_remove ⟨_, nl.1, rfl⟩ PySem.F.entry_list_remove (PySem.F.args_list_remove_2 _ _)
    (list_removeAt l vs.toArray n u (isRow o x) j (by simpa using hj) (by simpa using h1) (fun m hm hlt => by simpa using h2 m (by simpa using hm) hlt) (by simpa using hz)) ⟨nl.1, fun v hv => ?_, ?_⟩
  · obtain ⟨r, h1', h2⟩ := y.mem (by simpa using hv)
    exact row_eqAt N0 h2 z (hok r h1') hxk hu
  · have hl : (vs.eraseIdx j).length + 1 = vs.length := by rw [List.length_eraseIdx_of_lt hj]; omega
    refine hq _ (vs.eraseIdx j) (F.change (Heap.SameBut.update ..) nl.2.1 nl.2.2) (kl_turn (pre := []) _ N (fun _ hp => nomatch hp) hk ?_ ?_) h3 hl
    · apply Array.toList_inj.mp
      simp [Array.toList_eraseIdxIfInBounds]
    · rw [List.size_toArray, List.size_toArray]; omega
theorem remove_none {o : List (Addr × Obj)} {l : Addr} {vs : List Value} {n : Nat} {rs : List Pr} {u : Value} {x : Pr} {Q : Value → Shared → Prop} (N : News h₀ L s.heap o) (hm : (l, listOf vs.toArray n) ∈ o) (y : RowsV o vs rs) (z : RowV o u x) (hok : ∀ r ∈ rs, okP r) (hxk : okP x) (hu : A.units + 64 < cLine) (hx : x ∉ rs) (hh : A.handled = none)
    (hq : ∀ h' tk e, Heap.NewExc s.heap h' e "ValueError" → E (.ref e) { s with heap := h', toks := tk }) : wpAny (model prog w) A (call (.builtin "list.remove") [.ref l, u]) Q E s := by
  refine call_meets PySem.F.slot_list_remove ⟨_, (N _ hm).1, rfl⟩ PySem.F.entry_list_remove (PySem.F.args_list_remove_2 _ _)
    (list_remove_noneAt l vs.toArray n u (isRow o x) (fun m hm => ?_)) ⟨(N _ hm).1, fun v hv => ?_, ?_⟩
  · obtain ⟨r, h1, h2⟩ := y.mem (v := vs[m]'(by simpa using hm)) (List.getElem_mem _)
    have := isRow_eq (x := x) N h2
    simp only [List.getElem_toArray]
    rw [this]
    exact decide_eq_false fun q => hx (q ▸ h1)
  · obtain ⟨r, h1', h2⟩ := y.mem (by simpa using hv)
    exact row_eqAt N h2 z (hok r h1') hxk hu
  · exact ⟨hh, fun h' tk e x => hq h' tk e x⟩
theorem pop_led {keep : List (Addr × Obj)} {l : Addr} {vs : List Value} {v : Value} {n : Nat} {Q : Value → Shared → Prop} (F : Fr h₀ L s.heap m) (N : News h₀ L s.heap ((l, listOf (vs ++ [v]).toArray n) :: keep)) (hk : ∀ p ∈ keep, p.1 ≠ l) (hz : vs.length < sizeLine)
    (hq : ∀ h', Fr h₀ L h' m → News h₀ L h' ((l, listOf vs.toArray (n + 1)) :: keep) → Q v { s with heap := h' }) : wpAny (model prog w) A (call (.builtin "list.pop") [.ref l]) Q E s :=
  kl_pop F N (kpa_last v vs) (.head hk) (by simpa using Nat.succ_le_of_lt hz) hq
theorem while_ind {env : Env} {test : Expr} {body orelse : List Stmt} {Q : Flow → Shared → Prop} (J : Nat → (Str → Option Value) → List (Addr × Obj) → Prop) (hE : PassesOwn (model prog w) A env E)
    (turn : ∀ n m₁ nx h tk, J n m₁ nx → Fr h₀ L h m₁ → News h₀ L h nx → wpAny (model prog w) A (isTrue test env (eval test env)) (fun b s₂ => WhlIf b
        (wpAny (model prog w) A (execs body env) (fun f s₃ => match f with
          | .ret v => Q (.ret v) s₃
          | .brk => Q .next s₃
          | _ => ∃ n' h' tk' m' nx', n' < n ∧ s₃ = { s with heap := h', toks := tk' } ∧ J n' m' nx' ∧ Fr h₀ L h' m' ∧ News h₀ L h' nx') E s₂)
        (wpAny (model prog w) A (execs orelse env) Q E s₂)) E { s with heap := h, toks := tk }) :
    ∀ n m₁ nx h tk, J n m₁ nx → Fr h₀ L h m₁ → News h₀ L h nx → WhlRest prog w A E env test body orelse Q 0 { s with heap := h, toks := tk } := by
  intro n
  induction n using Nat.strongRecOn with
  | _ n ih =>
    intro m₁ nx h tk hJ F N
    refine whl_turn (k := 0) hE (wpAny_mono (turn n m₁ nx h tk hJ F N) (fun b s₂ hb => ?_) fun _ _ e => e)
    cases b with
    | false => exact hb
    | true =>
      refine wpAny_mono hb (fun f s₃ hf => ?_) fun _ _ e => e
      cases f with
      | next => obtain ⟨n', h', tk', m', nx', hlt, rfl, J', F', N'⟩ := hf; exact ih n' hlt m' nx' h' tk' J' F' N'
      | cont => obtain ⟨n', h', tk', m', nx', hlt, rfl, J', F', N'⟩ := hf; exact ih n' hlt m' nx' h' tk' J' F' N'
      | brk => exact hf
      | ret v => exact hf
end
end
section
open PySem PySem.W PySem.Calls
open PyProof.Rows hiding wpAt wpAt_mono wpAt_bind wpAt_stack strKind
open PySem.W.X (Mem)
set_option Elab.async false
set_option maxRecDepth 100000
set_option maxHeartbeats 2000000
set_option pp.deepTerms false
set_option pp.maxSteps 3000
theorem it_plain : plainId "dict.items" = true := by decide +kernel
theorem it_split : splitId "dict.items" = some ("dict", "items") := by decide +kernel
theorem it_kind : builtinKind "dict.items" = some .slot ∨ builtinKind "dict.items" = some .method := .inr (by decide +kernel)
section
variable {w : World} {A : Around} {Q E : Value → Shared → Prop} {s : Shared} {h₀ : Heap} {L : Addr} {m : Str → Option Value} {news : List (Addr × Obj)} {b d : Addr} {ep : Nat} {es : List EntC} {other : List (Addr × Obj)}
theorem book_noargs {M : Model} {Q : Addr → Shared → Prop} {hp : Heap} {gs : Array GenState} {dr : Drawn} {tk : Nat} {os : OsState} (T : Looks M hp (typeOf (.ref b)) (.ref 108)) (LO : Looks M hp (isInstance (.ref b) (.type "collections.OrderedDict")) false) (q : Q b ⟨hp, gs, dr, tk, os⟩) :
    wpAny M A (Builtin.Dict.noArgs "items" ⟨[.ref b], []⟩) Q E ⟨hp, gs, dr, tk, os⟩ := by
  unfold Builtin.Dict.noArgs Builtin.Dict.notOrdered Builtin.Dict.nameIsSure
  rw [if_pos (by decide +kernel)]
  refine wpAny_bind (wpAny_bind (T.at ?_))
  rw [if_pos (by decide)]
  refine wpAny_bind (LO.at ?_)
  rw [if_neg (by decide)]
  refine wpAny_pure (wpAny_bind ?_)
  rw [if_neg (fun h => by cases h)]
  refine wpAny_pure (wpAny_bind ?_)
  unfold selfOnly noKeywords
  refine wpAny_bind ?_
  exact wpAny_pure (wpAny_pure (wpAny_pure q))
theorem op_items (F : Fr h₀ L s.heap m) (X : (hd.heap_1 w.params).In h₀) (N : News h₀ L s.heap news) (S : BookSt w b d ep es other news) (nx : List (Addr × Obj)) (Nx : News h₀ L s.heap nx)
    (hq : ∀ v h', Fr h₀ L h' m → News h₀ L h' ((v, ({ cls := .type "dict_items", data := .fields #[.ref b] } : Obj)) :: nx) → (∀ q ∈ nx, q.1 < v) → Q (.ref v) { s with heap := h' }) :
    wpAny (model PySem.Challenge.rw_in0186_01.row.prog w) A (call (.builtin "dict.items") [.ref b]) Q E s := by
  revert X; k_fill; intro X0
  have X := X0.keeps F.keep
  have hb := (N _ S.book).1
  obtain ⟨hp, gs, dr, tk, os⟩ := s
  have T1 : Looks (model PySem.Challenge.rw_in0186_01.row.prog w) hp (typeOf (.ref b)) (.ref 108) := (Looks.ld hb).andThen .now
  have LS : Looks (model PySem.Challenge.rw_in0186_01.row.prog w) hp (isInstance (.ref b) (.type "dict")) true := T1.andThen (looks_subIn X (by k_is))
  have LO : Looks (model PySem.Challenge.rw_in0186_01.row.prog w) hp (isInstance (.ref b) (.type "collections.OrderedDict")) false := T1.andThen (looks_subIn X (by k_is))
  refine wpAny_call (codeAny_call_builtin it_plain PySem.F.entry_dict_items ?_)
  refine @check_meth (model PySem.Challenge.rw_in0186_01.row.prog w) _ _ ⟨hp, gs, dr, tk, os⟩ "dict.items" "dict" "items" (.ref b) [] _ it_kind it_split LS (PySem.F.args_dict_items_1 _) ?_
  unfold Builtin.«dict.items»
  refine wpAny_bind (book_noargs T1 LO ?_)
  unfold Builtin.Dict.showsAll
  rw [if_neg (by rw [S.sys]; exact Bool.false_ne_true)]
  refine wpAny_bind (wpAny_pure ?_)
  refine wpAny_bind (wpAny_newObj_type (wpAny_pure ?_))
  exact hq hp.objs.size _ (F.push _) (News.push F Nx _) fun q hq' => Heap.lt_size (Nx q hq').1
end
end
section
open PySem PySem.W PySem.Calls
open PyProof.Rows hiding wpAt wpAt_mono wpAt_bind wpAt_stack strKind
open PySem.W.X (Mem)
set_option Elab.async false
set_option maxRecDepth 100000
set_option maxHeartbeats 2000000
set_option pp.deepTerms false
set_option pp.maxSteps 3000
open LCg

def Turns2 (prog : Program) (w : World) (A : Around) (h₀ : Heap) (L : Addr) (m : Str → Option Value) (env : Env) (ct elt : Expr) (xs : Str × Str) (scope : Scope) (cl : List (Str × Addr)) (s : Shared) (S : List (Addr × Obj) → Prop) (P : Nat → Value → Prop)
    (J : Nat → List Value → List (Addr × Obj) → Prop) (n : Nat) : Prop :=
  ∀ i ys nw v, i < n → J i ys nw → P i v → ∃ t ot v1 v2 nt, v = .ref t ∧ (t, ot) ∈ nw ∧ ot.cls = .type "tuple" ∧ ot.data = .seq #[v1, v2] nt ∧ ys.length ≤ i ∧
    ∀ I oI C oC D m₂ h tk (E' : Value → Shared → Prop), NsObj oC m₂ → m₂ xs.1 = some v1 → m₂ xs.2 = some v2 → Fr h₀ L h m → News h₀ L h ((I, oI) :: (C, oC) :: (D, lst ys) :: nw) → Off3 I C D nw → ((@Ne Nat I C) ∧ (@Ne Nat I D) ∧ (@Ne Nat C D)) →
      wpAny (model prog w) A (isTrue ct (compEnvC scope cl C env) (eval ct (compEnvC scope cl C env))) (fun ok s' => if ok = true then
        wpAny (model prog w) A (eval elt (compEnvC scope cl C env)) (CompEnd h₀ L m { s with heap := h, toks := tk } I oI C oC D (lst ys) S (fun y nw' => J (i + 1) (ys ++ [y]) nw')) E' s'
        else CompEnd h₀ L m { s with heap := h, toks := tk } I oI C oC D (lst ys) S (fun _ nw' => J (i + 1) ys nw') Value.none s') E' { s with heap := h, toks := tk }
section
variable {prog : Program} {w : World} {A : Around} {E : Value → Shared → Prop} {s : Shared} {h₀ : Heap} {L : Addr} {m : Str → Option Value} {env : Env}
theorem list2c {elt iter ct : Expr} {x1 x2 : Str} {p1 p2 tp : Pos} {tk0} {scope : Scope} {cl : List (Str × Addr)} {pos : Pos} {Q : Value → Shared → Prop}
    (_F₀ : Fr h₀ L s.heap m) (hclos : closureFor scope env = pure cl) (hcell : ∀ y ∈ scope.names, y.2 ≠ .cell) (hkind : scope.kind = .function) (hnames : ∀ y ∈ scope.names, y.2 = .local → scope.names.lookup y.1 = some .local)
    (hx1 : scope.names.lookup x1 = some .local) (hx2 : scope.names.lookup x2 = some .local) (h12 : x1 ≠ x2)
    (h : wpAny (model prog w) A (eval iter env) (fun xv s₁ => ∃ ax its k nw J, xv = .ref ax ∧ A.handled = none ∧ Fr h₀ L s₁.heap m ∧ News h₀ L s₁.heap nw ∧ (ax, ({ cls := .type "list", data := .seq its k } : Obj)) ∈ nw ∧ its.size ≤ sizeLine ∧ J 0 [] nw ∧
      (∀ g, Turns2 prog w A h₀ L m env ct elt (x1, x2) scope cl { s₁ with heap := g } (SrcAt h₀ ax its) (fun i v => its[i]? = some v) J its.size) ∧
      ∀ g ys nw', J its.size ys nw' → FinE h₀ L m { s₁ with heap := g } Q ys nw') E s)
    (hs : ∀ x, foldedSetIterable iter env x = pure x := by intro _; rfl) :
    wpAny (model prog w) A (eval (.ListComp elt [⟨.Tuple [.Name x1 p1, .Name x2 p2] tk0 tp, iter, [ct], 0⟩] scope pos) env) Q E s := by
  rw [eval_ListComp]
  refine wpAny_comprehension_free (use := none) rfl hs hclos hkind hnames (wpAny_mono h (fun xv s₁ h₁ => ?_) fun _ _ e => e)
  obtain ⟨ax, its, kk, nw, J, rfl, hh, F, N, hax, hsz, hJ, hT, hfin⟩ := h₁
  refine cp_pre (post := fun acc C => compPost (model prog w) A E none Q acc C) hh F N hax hJ hcell hkind fun h tk I C D a c0 => ?_
  refine kct_loop (CpI s₁ h₀ L m its ax I C D J) ?_ _ c0
  rintro _ _ @⟨h, tk, i, ys, nw', m', hi, hyl, c⟩
  refine cp_item hh a hi c (fun v h₂ tk₂ hlt hv c => ?_) fun h₂ tk₂ e j F2 n2 N2 => ?_
  · obtain ⟨t, ot, v1, v2, nt, rfl, hmt, hct, hdt, _, R''⟩ := hT s₁.heap i ys nw' v hlt c.j hv
    have ht : IsTup h₂ t #[v1, v2] := ⟨ot, (c.nws _ (.tail _ hmt)).1, hct, nt, hdt⟩
    refine wpAny_letOwnedTupleGo_listiter c.it ?_
    refine assign_Tuple_tuple hh ht rfl rfl fun h₅ he => ?_
    replace c := c.keeps fun b o e => he b o (Nat.ne_of_lt (Heap.lt_size e)) e
    refine assignInOrder_cons (wpAny_assign_Name (wpAny_storeName_local (lookup_relabel_local hx1) c.ns (fun h6 hn6 hs6 => ?_) (by simp [compEnvC, relabel, hkind])))
    replace c := c.set a hn6 hs6
    clear hn6 hs6 ht he
    refine assignInOrder_cons (wpAny_assign_Name (wpAny_storeName_local (lookup_relabel_local hx2) c.ns (fun h7 hn7 hs7 => ?_) (by simp [compEnvC, relabel, hkind])))
    replace c := c.set a hn7 hs7
    refine assignInOrder_nil ?_
    obtain ⟨oI, oC, hC, hI, N8⟩ := c.full a
    refine wpAny_mono (R'' I oI C oC D _ _ _ _ hC (by simp [h12]) (by simp) c.fr N8 c.off ⟨a.ic, a.id, a.dc.symm⟩) (fun ok s₄ hc => ?_) fun _ _ e => e
    cases ok with
    | false =>
      simp only [Bool.false_eq_true, if_false] at hc ⊢
      obtain ⟨h9, tk9, nw9, rfl, F9, N9, off9, hS9, J9⟩ := hc
      exact cp_next hlt (Nat.le_succ_of_le hyl) hC hI F9 N9 off9 hS9 J9
    | true =>
      simp only [if_true] at hc ⊢
      refine wpAny_mono hc (fun y s₅ hc => ?_) fun _ _ e => e
      obtain ⟨h9, tk9, nw9, rfl, F9, N9, off9, hS9, J9⟩ := hc
      exact cp_append a hsz hlt hyl hC hI F9 N9 off9 hS9 J9
  · subst e
    exact ⟨m', n2, fun h'' hs'' => hfin s₁.heap ys nw' j D h'' _ (F2.change hs'' a.cl a.c0) (fun p hp => ⟨hs''.extBut _ _ (c.offD a p hp) (N2 p hp).1, (N2 p hp).2⟩) c.off.one⟩
end
end
section
open PySem PySem.W PySem.Calls
open PyProof.Rows hiding wpAt wpAt_mono wpAt_bind wpAt_stack strKind
open PySem.W.X (Mem)
set_option Elab.async false
set_option maxRecDepth 100000
set_option maxHeartbeats 2000000
set_option pp.deepTerms false
set_option pp.maxSteps 3000
open LCg
section
variable {prog : Program} {w : World} {A : Around} {E : Value → Shared → Prop} {s : Shared} {h₀ : Heap} {L : Addr} {m : Str → Option Value}
theorem turn1_eq (elt t1 i1 t2 i2 : Expr) (scope : Scope) (pos : Pos) (it acc : Value) (env : Env) :
    compTurn (.ListComp elt [⟨t1, i1, [], 0⟩, ⟨t2, i2, [], 0⟩] scope pos) 1 it acc env = (do
      standAt i2.pos
      match ← pyNext it with
      | none => pure (.done .next)
      | some v =>
        letOwnedTupleGo t2 it v
        assign t2 env v
        let mut ok := true
        for c in ([] : List Expr) do
          if ok then ok ← isTrue c env (eval c env)
        if ok then
          (do let _ ← call (.builtin "list.append") [acc, ← eval elt env])
        again (.compLoop (.ListComp elt [⟨t1, i1, [], 0⟩, ⟨t2, i2, [], 0⟩] scope pos) 1 it acc env)) := by rfl
theorem turn0_eq (elt t1 i1 t2 i2 : Expr) (scope : Scope) (pos : Pos) (it acc : Value) (env : Env) :
    compTurn (.ListComp elt [⟨t1, i1, [], 0⟩, ⟨t2, i2, [], 0⟩] scope pos) 0 it acc env = (do
      standAt i1.pos
      match ← pyNext it with
      | none => pure (.done .next)
      | some v =>
        letOwnedTupleGo t1 it v
        assign t1 env v
        let mut ok := true
        for c in ([] : List Expr) do
          if ok then ok ← isTrue c env (eval c env)
        if ok then
          let x ← eval i2 env
          standAt i2.pos
          let x ← foldedSetIterable i2 env x
          let _ ← runOwn (.compStart (.ListComp elt [⟨t1, i1, [], 0⟩, ⟨t2, i2, [], 0⟩] scope pos) 1 (← holding [x] (pyIter x)) acc env) env
        again (.compLoop (.ListComp elt [⟨t1, i1, [], 0⟩, ⟨t2, i2, [], 0⟩] scope pos) 0 it acc env)) := by rfl
theorem nest1_loop {elt t1 i1 i2 : Expr} {x3 : Str} {p3 : Pos} {scope : Scope} {pos : Pos} {it acc : Value} {env : Env} {R : Result → Shared → Prop} (I : Nat → Shared → Prop)
    (turn : ∀ n s, I n s → wpAny (model prog w) A (pyNext it) (fun r s₁ => match r with
      | none => R (.ok .next) s₁
      | some v => wpAny (model prog w) A (assign (.Name x3 p3) env v) (fun _ s₂ =>
          wpAny (model prog w) A (eval elt env) (fun x s₄ =>
              wpAny (model prog w) A (call (.builtin "list.append") [acc, x]) (fun _ s₅ => ∃ m, m < n ∧ I m s₅) (notedBy (model prog w) A env fun e s' => R (.error e) s') s₄) (notedBy (model prog w) A env fun e s' => R (.error e) s') s₂)
          (notedBy (model prog w) A env fun e s' => R (.error e) s') s₁) (notedBy (model prog w) A env fun e s' => R (.error e) s') s)
    (n : Nat) (h : I n s) : codeAny (model prog w) A (.compLoop (.ListComp elt [⟨t1, i1, [], 0⟩, ⟨.Name x3 p3, i2, [], 0⟩] scope pos) 1 it acc env) R s := by
  refine codeAny_loop rfl I (fun n s hI => ?_) n h
  show wpAny _ A ((compTurn (.ListComp elt [⟨t1, i1, [], 0⟩, ⟨.Name x3 p3, i2, [], 0⟩] scope pos) 1 it acc env).onRaise (fun x => do noteFrame x env; theTreesLotGoes x)) _ _ s
  refine wpAny_noted ?_
  rw [turn1_eq]
  refine wpAny_bind (wpAny_standAt (wpAny_bind (wpAny_mono (turn n s hI) (fun r s₁ h₁ => ?_) fun _ _ h' => h')))
  cases r with
  | none => exact wpAny_pure h₁
  | some v =>
    refine wpAny_bind (wpAny_of_eq (a := ()) (by rfl) ?_)
    refine wpAny_bind (wpAny_mono h₁ (fun _ s₂ h₂ => wpAny_bind (wpAny_mono (wpAny_tests_nil (Q := fun ok s₃ => ok = true ∧ s₃ = s₂) ⟨rfl, rfl⟩) (fun ok s₃ h₃ => ?_) fun _ _ h' => h')) fun _ _ h' => h')
    obtain ⟨rfl, rfl⟩ := h₃
    exact wpAny_bind (wpAny_bind (wpAny_mono h₂ (fun x s₄ h₄ => wpAny_bind (wpAny_mono h₄ (fun _ s₅ h₅ => wpAny_pure (wpAny_pure ⟨rfl, h₅⟩)) fun _ _ h' => h')) fun _ _ h' => h'))
theorem nest1_start {elt t1 i1 t2 i2 : Expr} {scope : Scope} {pos : Pos} {it acc : Value} {env : Env} {R : Result → Shared → Prop}
    (h0 : codeAny (model prog w) A (.compLoop (.ListComp elt [⟨t1, i1, [], 0⟩, ⟨t2, i2, [], 0⟩] scope pos) 1 it acc env) R s)
    (h : wpAny (model prog w) A (pyIter it) (fun it' s' => codeAny (model prog w) A (.compLoop (.ListComp elt [⟨t1, i1, [], 0⟩, ⟨t2, i2, [], 0⟩] scope pos) 1 it' acc env) R s')
      (notedBy (model prog w) A env fun x s' => R (.error x) s') s) :
    codeAny (model prog w) A (.compStart (.ListComp elt [⟨t1, i1, [], 0⟩, ⟨t2, i2, [], 0⟩] scope pos) 1 it acc env) R s := by
  refine codeAny_of_tree ?_
  show wpAny _ _ ((compStart (.ListComp elt [⟨t1, i1, [], 0⟩, ⟨t2, i2, [], 0⟩] scope pos) 1 it acc env).onRaise (fun x => do noteFrame x env; standAt theWindowsPlace)) _ _ s
  refine wpAny_notedAt ?_
  unfold compStart
  show wpAny _ _ (ask >>= _) _ _ s
  refine wpAny_bind (wpAny_askSetting (wpAny_ite ?_))
  split
  · first
      | exact wpAny_bind (wpAny_pure (wpAny_pure (And.intro rfl h0)))
      | exact wpAny_pure (And.intro rfl h0)
  · refine wpAny_bind (wpAny_rule ?_)
    show wpAny _ _ (standAt i2.pos >>= _) _ _ s
    exact wpAny_bind (wpAny_standAt (wpAny_bind (wpAny_mono h (fun it' s' h' => wpAny_pure (And.intro rfl h')) fun _ _ x => x)))
theorem nest0_loop {elt i1 i2 : Expr} {elts : List Expr} {x1} {tp : Pos} {t2 : Expr} {scope : Scope} {pos : Pos} {it acc : Value} {env : Env} {R : Result → Shared → Prop} (I : Nat → Shared → Prop)
    (hs : ∀ x, foldedSetIterable i2 env x = pure x)
    (turn : ∀ n s, I n s → wpAny (model prog w) A (pyNext it) (fun r s₁ => match r with
      | none => R (.ok .next) s₁
      | some v => wpAny (model prog w) A (letOwnedTupleGo (.Tuple elts x1 tp) it v) (fun _ s₁' => wpAny (model prog w) A (assign (.Tuple elts x1 tp) env v) (fun _ s₂ =>
          wpAny (model prog w) A (eval i2 env) (fun x s₃ => wpAny (model prog w) A (pyIter x) (fun it2 s₄ =>
            codeAny (model prog w) A (.compStart (.ListComp elt [⟨.Tuple elts x1 tp, i1, [], 0⟩, ⟨t2, i2, [], 0⟩] scope pos) 1 it2 acc env) (fun r s' => match r with
              | .ok _ => ∃ m, m < n ∧ I m s'
              | .error e => cameBackBy (model prog w) A env (notedBy (model prog w) A env fun e s' => R (.error e) s') e s') s₄) (notedBy (model prog w) A env fun e s' => R (.error e) s') s₃) (notedBy (model prog w) A env fun e s' => R (.error e) s') s₂)
          (notedBy (model prog w) A env fun e s' => R (.error e) s') s₁') (notedBy (model prog w) A env fun e s' => R (.error e) s') s₁) (notedBy (model prog w) A env fun e s' => R (.error e) s') s)
    (n : Nat) (h : I n s) : codeAny (model prog w) A (.compLoop (.ListComp elt [⟨.Tuple elts x1 tp, i1, [], 0⟩, ⟨t2, i2, [], 0⟩] scope pos) 0 it acc env) R s := by
  refine codeAny_loop rfl I (fun n s hI => ?_) n h
  show wpAny _ A ((compTurn (.ListComp elt [⟨.Tuple elts x1 tp, i1, [], 0⟩, ⟨t2, i2, [], 0⟩] scope pos) 0 it acc env).onRaise (fun x => do noteFrame x env; theTreesLotGoes x)) _ _ s
  refine wpAny_noted ?_
  rw [turn0_eq]
  refine wpAny_bind (wpAny_standAt (wpAny_bind (wpAny_mono (turn n s hI) (fun r s₁ h₁ => ?_) fun _ _ h' => h')))
  cases r with
  | none => exact wpAny_pure h₁
  | some v =>
    refine wpAny_bind (wpAny_mono h₁ (fun _ s₁' h₁' => ?_) fun _ _ h' => h')
    refine wpAny_bind (wpAny_mono h₁' (fun _ s₂ h₂ => wpAny_bind (wpAny_mono (wpAny_tests_nil (Q := fun ok s₃ => ok = true ∧ s₃ = s₂) ⟨rfl, rfl⟩) (fun ok s₃ h₃ => ?_) fun _ _ h' => h')) fun _ _ h' => h')
    obtain ⟨rfl, rfl⟩ := h₃
    refine wpAny_bind (wpAny_mono h₂ (fun x s₄ h₄ => ?_) fun _ _ h' => h')
    refine wpAny_bind (wpAny_standAt ?_)
    refine wpAny_bind (wpAny_of_eq (hs x) ?_)
    refine wpAny_bind (wpAny_holding (wpAny_mono h₄ (fun it2 s₅ h₅ => ?_) fun _ _ h' => h'))
    refine wpAny_bind (wpAny_runOwn (codeAny_mono h₅ fun r s' hr => ?_))
    cases r with
    | ok f => exact wpAny_pure ⟨rfl, hr⟩
    | error e => exact hr
end
end
section
open PySem PySem.W PySem.Calls
open PyProof.Rows hiding wpAt wpAt_mono wpAt_bind wpAt_stack strKind
open PySem.W.X (Mem)
set_option Elab.async false
set_option maxRecDepth 100000
set_option maxHeartbeats 2000000
set_option pp.deepTerms false
set_option pp.maxSteps 3000
open LCg
open PyProof.Rows hiding wpAt
abbrev BkIt (h : Heap) (it b : Addr) (i n ep : Nat) (o0 : Value) (f : Bool) (ok ov : Value) : Prop :=
  h.get? it = some { cls := .type "dict_itemiterator", dict := none, data := .fields #[o0, .bool f, .ref b, .int i 0, .int n 0, .int ep 0, ok, ov], slots := #[] }
section
variable {prog : Program} {w : World} {A : Around} {E : Value → Shared → Prop} {s : Shared} {b : Addr} {ob : Obj} {es : Array DictEntry} {ep : Nat}

theorem bk_iter {v : Addr} {Q : Value → Shared → Prop} (hv : s.heap.get? v = some { cls := .type "dict_items", data := .fields #[.ref b] }) (ho : s.heap.get? b = some ob) (hd : ob.data = .dict es ep)
    (hQ : Q (.ref s.heap.objs.size) { s with heap := s.heap.push { cls := .type "dict_itemiterator", data := .fields #[.none, .bool false, .ref b, .int 0 0, .int es.size 0, .int ep 0, .none, .none] } }) :
    wpAny (model prog w) A (pyIter (.ref v)) Q E s := by
  have hT : s.TypeIs (.ref v) "dict_items" := ⟨_, hv, rfl⟩
  refine wpAny_pyIter_slot hT PySem.F.slot_dict_items_iter (wpAny_call_entry PySem.F.slot_dict_items_iter hT PySem.F.entry_dict_items_iter ?_ (PySem.F.args_dict_items_iter_1 _))
  unfold Builtin.«dict_items.__iter__» Builtin.Dict_items.dictOf Builtin.Dict_items.newIterator
  have own : Builtin.Dict_items.ownsTuple "dict_itemiterator" = true := by decide
  refine wpAny_bind (wpAny_pure (wpAny_bind (wpAny_bind (wpAny_field hv rfl (x := .ref b) rfl (wpAny_pure ?_)))))
  refine wpAny_bind (wpAny_bind (wpAny_dictEntries ho hd (wpAny_bind (wpAny_dictEpoch ho hd ?_))))
  simp only [own, if_true]
  refine wpAny_newObj_type (wpAny_pure ⟨_, rfl, "dict_itemiterator", _, ⟨_, Heap.get?_push_size _ rfl, rfl⟩, PySem.F.slot_dict_itemiterator_next.lookup, ?_⟩)
    (by simp only [sizeOk, Builtin.Dict_items.ownedTupleFields, List.size_toArray, List.length_append, List.length_cons, List.length_nil, sizeLine_eq]; omega)
  simpa [rawInt, Builtin.Dict_items.ownedTupleFields] using hQ
theorem bk_core {s : Shared} {it : Addr} {i : Nat} {en : DictEntry} {o0 : Value} {f : Bool} {ok ov : Value} {Q : Option Value → Shared → Prop} (hit : BkIt s.heap it b i es.size ep o0 f ok ov) (ho : s.heap.get? b = some ob) (hd : ob.data = .dict es ep) (hx : es[i]? = some en)
    (hpair : ∀ h₁ A' (Q' : Value → Shared → Prop) E', BkIt h₁ it b (i + 1) es.size ep o0 f ok ov → h₁.objs.size = s.heap.objs.size → (∀ c o, c ≠ it → s.heap.get? c = some o → h₁.get? c = some o) → (∀ r h', Q (some r) { s with heap := h' } → Q' r { s with heap := h' }) →
      wpAny (model prog w) A' (Builtin.Dict_items.pairFromOwner (.ref it) 6 en.key en.val) Q' E' { s with heap := h₁ }) :
    wpAny (model prog w) A (pyNext (.ref it)) Q E s := by
  obtain ⟨hp, g, dr, tk, os⟩ := s
  have hT : Shared.TypeIs ⟨hp, g, dr, tk, os⟩ (.ref it) "dict_itemiterator" := ⟨_, hit, rfl⟩
  have own : Builtin.Dict_items.ownsTuple "dict_itemiterator" = true := by decide
  unfold pyNext
  refine wpAny_bind (wpAny_attempt (wpAny_callSpecial?_slot (name := Str.ofString "__next__") hT PySem.F.slot_dict_itemiterator_next
    (wpAny_call_entry PySem.F.slot_dict_itemiterator_next hT PySem.F.entry_dict_itemiterator_next ?_ (PySem.F.args_dict_itemiterator_next_1 _))))
  refine wpAny_bind (wpAny_pure (wpAny_bind (wpAny_bind ?_)))
  first | refine wpAny_bind (wpAny_typeNameOfWhole_itemiter hT (wpAny_pure ?_)) | refine wpAny_bind (wpAny_typeNameOf_itemiter hT (wpAny_pure ?_))
  refine wpAny_bind (wpAny_fieldsOf hit rfl ?_)
  rw [if_pos own]
  show wpAny _ _ (if (Value.ref b == Value.none) = true then _ else _) _ _ _
  rw [if_neg (show ¬ ((Value.ref b == Value.none) = true) from Bool.false_ne_true)]
  refine wpAny_bind (wpAny_pure (wpAny_bind (wpAny_dictEntries ho hd ?_)))
  rw [if_neg (by simp)]
  refine wpAny_bind (wpAny_pure (wpAny_bind (wpAny_dictEpoch ho hd ?_)))
  rw [if_neg (by simp)]
  refine wpAny_pure ?_
  dsimp only
  rw [if_neg (show ¬ ((i : Int) < 0) by omega), Int.toNat_natCast]
  rw [hx]
  dsimp only
  refine wpAny_bind ?_
  first | refine wpAny_bind (wpAny_typeNameOfWhole_itemiter hT (wpAny_pure ?_)) | refine wpAny_bind (wpAny_typeNameOf_itemiter hT (wpAny_pure ?_))
  refine wpAny_bind (wpAny_isOneOf_itemiter hT ?_)
  show wpAny _ _ (setField (.ref it) 3 (rawInt ((i : Int) + 1)) >>= _) _ _ ⟨hp, g, dr, tk, os⟩
  refine wpAny_bind (wpAny_setField_rec hit (by simp) fun h₁ e₁ s₁ => ?_)
  replace s₁ : Heap.SameBut it hp h₁ := s₁
  replace e₁ : BkIt h₁ it b (i + 1) es.size ep o0 f ok ov := by
    unfold BkIt
    rw [show ((i + 1 : Nat) : Int) = (i : Int) + 1 by omega]
    simpa [rawInt] using e₁
  have hT₁ : Shared.TypeIs ⟨h₁, g, dr, tk, os⟩ (.ref it) "dict_itemiterator" := ⟨_, e₁, rfl⟩
  refine wpAny_bind (wpAny_holding (wpAny_bind (wpAny_isOneOf_itemiter hT₁ (wpAny_bind (wpAny_isOneOf_itemiter hT₁ ?_)))))
  show wpAny _ _ (Builtin.Dict_items.pairFromOwner (.ref it) 6 en.key en.val) _ _ ⟨h₁, g, dr, tk, os⟩
  exact hpair h₁ _ _ _ e₁ s₁.1 s₁.extBut fun r h' hq => wpAny_pure ⟨_, rfl, wpAny_pure hq⟩
theorem bk_pairF {hp : Heap} {gs : Array GenState} {dr : Drawn} {tk : Nat} {os : OsState} {it : Addr} {i n : Nat} {k v ok ov : Value} {Q : Value → Shared → Prop} (e : BkIt hp it b i n ep .none false ok ov)
    (hQ : ∀ h', BkIt h' it b i n ep (rawInt hp.objs.size) false k v → h'.get? hp.objs.size = some { cls := .type "tuple", data := .seq #[k, v] } → (∀ c o, c ≠ it → hp.get? c = some o → h'.get? c = some o) → Q (.ref hp.objs.size) ⟨h', gs, dr, tk, os⟩) :
    wpAny (model prog w) A (Builtin.Dict_items.pairFromOwner (.ref it) 6 k v) Q E ⟨hp, gs, dr, tk, os⟩ := by
  have hil : it < hp.objs.size := Heap.lt_size e
  unfold Builtin.Dict_items.pairFromOwner
  refine wpAny_bind (wpAny_newTuple ?_)
  have up : ∀ c o, hp.get? c = some o → (hp.push { cls := .type "tuple", data := .seq #[k, v] }).get? c = some o := fun c o e => Heap.get?_push_of_some _ e
  have t₂ : (hp.push { cls := .type "tuple", data := .seq #[k, v] }).get? hp.objs.size = some { cls := .type "tuple", data := .seq #[k, v] } := Heap.get?_push_size _ rfl
  have e₂ := up _ _ e
  show wpAny _ _ (Builtin.Dict_items.ownedTupleIsFree (.ref it) >>= _) _ _ ⟨hp.push { cls := .type "tuple", data := .seq #[k, v] }, gs, dr, tk, os⟩
  generalize hp.push { cls := .type "tuple", data := .seq #[k, v] } = h₂ at *
  refine wpAny_bind ?_
  unfold Builtin.Dict_items.ownedTupleIsFree
  refine wpAny_bind (wpAny_field e₂ rfl (x := .none) rfl (wpAny_pure ?_))
  rw [if_pos rfl]
  refine wpAny_bind (wpAny_field e₂ rfl (x := ok) rfl (wpAny_bind (wpAny_field e₂ rfl (x := ov) rfl ?_)))
  refine wpAny_bind (wpAny_setField_rec e₂ (by simp) fun h₃ e₃ s₃ => ?_)
  replace s₃ : Heap.SameBut it h₂ h₃ := s₃
  replace e₃ : BkIt h₃ it b i n ep .none false k ov := e₃
  refine wpAny_bind (wpAny_setField_rec e₃ (by simp) fun h₄ e₄ s₄ => ?_)
  replace s₄ : Heap.SameBut it h₃ h₄ := s₄
  replace e₄ : BkIt h₄ it b i n ep .none false k v := e₄
  refine wpAny_bind (wpAny_setField_rec e₄ (by simp) fun h₅ e₅ s₅ => ?_)
  replace s₅ : Heap.SameBut it h₄ h₅ := s₅
  replace e₅ : BkIt h₅ it b i n ep (rawInt hp.objs.size) false k v := e₅
  refine wpAny_bind (wpAny_setField_rec e₅ (by simp) fun h₆ e₆ s₆ => ?_)
  replace s₆ : Heap.SameBut it h₅ h₆ := s₆
  replace e₆ : BkIt h₆ it b i n ep (rawInt hp.objs.size) false k v := e₆
  have k₆ : ∀ c o, c ≠ it → h₂.get? c = some o → h₆.get? c = some o := fun c o hc e => s₆.extBut c o hc (s₅.extBut c o hc (s₄.extBut c o hc (s₃.extBut c o hc e)))
  have t₆ := k₆ _ _ (Nat.ne_of_gt hil) t₂
  exact wpAny_bind (wpAny_letGo (wpAny_pure (hQ h₆ e₆ t₆ fun c o hc e => k₆ c o hc (up c o e))))
theorem bk_next {it : Addr} {i : Nat} {en : DictEntry} {ok ov : Value} {Q : Option Value → Shared → Prop} (hit : IsItemIter s.heap it b i es.size ep ok ov) (ho : s.heap.get? b = some ob) (hd : ob.data = .dict es ep) (hx : es[i]? = some en)
    (hQ : ∀ h', IsItemIterOut h' it b (i + 1) es.size ep en.key en.val s.heap.objs.size → h'.get? s.heap.objs.size = some { cls := .type "tuple", data := .seq #[en.key, en.val] } →
      (∀ c o, c ≠ it → s.heap.get? c = some o → h'.get? c = some o) → Q (some (.ref s.heap.objs.size)) { s with heap := h' }) :
    wpAny (model prog w) A (pyNext (.ref it)) Q E s := by
  refine bk_core (f := false) hit ho hd hx fun h₁ A' Q' E' e₁ z₁ k₁ q => ?_
  refine bk_pairF e₁ fun h' e' t' k' => ?_
  rw [z₁] at e' t' ⊢
  exact q _ h' (hQ h' e' t' fun c o hc e => k' c o hc (k₁ c o hc e))
theorem bk_last {s : Shared} {it : Addr} {i : Nat} {o0 : Value} {f : Bool} {ok ov : Value} {Q : Option Value → Shared → Prop} (hh : A.handled = none) (hit : BkIt s.heap it b i es.size ep o0 f ok ov) (ho : s.heap.get? b = some ob) (hd : ob.data = .dict es ep) (hx : es.size ≤ i)
    (hQ : ∀ h', Heap.ExtBut it s.heap h' → Q none { s with heap := h' }) : wpAny (model prog w) A (pyNext (.ref it)) Q E s := by
  have hT : s.TypeIs (.ref it) "dict_itemiterator" := ⟨_, hit, rfl⟩
  have own : Builtin.Dict_items.ownsTuple "dict_itemiterator" = true := by decide
  unfold pyNext
  refine wpAny_bind (wpAny_attempt (wpAny_callSpecial?_slot (name := Str.ofString "__next__") hT PySem.F.slot_dict_itemiterator_next
    (wpAny_call_entry PySem.F.slot_dict_itemiterator_next hT PySem.F.entry_dict_itemiterator_next ?_ (PySem.F.args_dict_itemiterator_next_1 _))))
  refine wpAny_bind (wpAny_pure (wpAny_bind (wpAny_bind ?_)))
  first | refine wpAny_bind (wpAny_typeNameOfWhole_itemiter hT (wpAny_pure ?_)) | refine wpAny_bind (wpAny_typeNameOf_itemiter hT (wpAny_pure ?_))
  refine wpAny_bind (wpAny_fieldsOf hit rfl ?_)
  rw [if_pos own]
  show wpAny _ _ (if (Value.ref b == Value.none) = true then _ else _) _ _ s
  rw [if_neg (show ¬ ((Value.ref b == Value.none) = true) from Bool.false_ne_true)]
  refine wpAny_bind (wpAny_pure (wpAny_bind (wpAny_dictEntries ho hd ?_)))
  rw [if_neg (by simp)]
  refine wpAny_bind (wpAny_pure (wpAny_bind (wpAny_dictEpoch ho hd ?_)))
  rw [if_neg (by simp)]
  refine wpAny_pure ?_
  dsimp only
  rw [if_neg (show ¬ ((i : Int) < 0) by omega), Int.toNat_natCast]
  rw [Array.getElem?_eq_none hx]
  dsimp only
  refine wpAny_bind ?_
  first | refine wpAny_bind (wpAny_typeNameOfWhole_itemiter hT (wpAny_pure ?_)) | refine wpAny_bind (wpAny_typeNameOf_itemiter hT (wpAny_pure ?_))
  show wpAny _ _ (setField (.ref it) 2 .none >>= _) _ _ s
  refine wpAny_bind (wpAny_setField hit rfl (by simp) ?_)
  show wpAny _ _ (newExc (.type "StopIteration") [] >>= _) _ _ _
  refine wpAny_bind ?_
  simp only [newExc, newTuple]
  refine wpAny_bind (wpAny_newObj_type ?_ (by size_fits))
  refine wpAny_bind (m := firstArgMember _ _) (wpAny_of_eq (a := Value.none) (by first | rfl | (simp only [firstArgMember]; rfl)) ?_)
  refine wpAny_newObj_type ?_ (by size_fits)
  unfold raiseNew
  refine wpAny_bind (wpAny_handled ?_)
  rw [show A.in1.handled = none from hh]
  refine wpAny_bind (wpAny_pure (wpAny_throw ?_))
  refine wpAny_bind (wpAny_isInstance (T := "StopIteration") (b := true) ⟨_, Heap.get?_push_size _ rfl, rfl⟩ isSubtype_stop ?_)
  exact wpAny_pure (hQ _ (((Heap.SameBut.update ..).extBut.push _).push _))
theorem bk_end {it : Addr} {i : Nat} {ok ov : Value} {Q : Option Value → Shared → Prop} (hh : A.handled = none) (hit : IsItemIter s.heap it b i es.size ep ok ov) (ho : s.heap.get? b = some ob) (hd : ob.data = .dict es ep) (hx : es.size ≤ i)
    (hQ : ∀ h', Heap.ExtBut it s.heap h' → Q none { s with heap := h' }) : wpAny (model prog w) A (pyNext (.ref it)) Q E s := bk_last (f := false) hh hit ho hd hx hQ
end
end
section
open PySem PySem.W PySem.Calls
open PyProof.Rows hiding wpAt wpAt_mono wpAt_bind wpAt_stack strKind
open PySem.W.X (Mem)
set_option Elab.async false
set_option maxRecDepth 100000
set_option maxHeartbeats 2000000
set_option pp.deepTerms false
set_option pp.maxSteps 3000
def flat (t : Tab) : List Pr := t.flatMap fun r => r.2.map fun x => (r.1, x)
theorem flat_snoc (t : Tab) (r : Str × List Str) : flat (t ++ [r]) = flat t ++ r.2.map fun x => (r.1, x) := by
  unfold flat; rw [List.flatMap_append]; simp
end
section
open PySem PySem.W PySem.Calls
open PyProof.Rows hiding wpAt wpAt_mono wpAt_bind wpAt_stack strKind
open PySem.W.X (Mem)
set_option Elab.async false
set_option maxRecDepth 100000
set_option maxHeartbeats 2000000
set_option pp.deepTerms false
set_option pp.maxSteps 3000
open LCg
def Elt2 (prog : Program) (w : World) (A : Around) (h₀ : Heap) (L : Addr) (m : Str → Option Value) (env : Env) (elt : Expr) (x1 x3 : Str) (scope : Scope) (cl : List (Str × Addr)) (s : Shared) : Prop :=
  ∀ (n x : Str) (tn tx : Tok) (ys : List Value) (nw : List (Addr × Obj)) I oI C oC D m₂ h tk (E' : Value → Shared → Prop), NsObj oC m₂ → m₂ x1 = some (.str n tn) → m₂ x3 = some (.str x tx) → Fr h₀ L h m → News h₀ L h ((I, oI) :: (C, oC) :: (D, lst ys) :: nw) → Off3 I C D nw → ((@Ne Nat I C) ∧ (@Ne Nat I D) ∧ (@Ne Nat C D)) →
    wpAny (model prog w) A (eval elt (compEnvC scope cl C env)) (fun y s' => ∃ le h' tk', y = .ref le ∧ s' = { s with heap := h', toks := tk' } ∧ Fr h₀ L h' m ∧ News h₀ L h' ((le, listOf #[.str n tn, .str x tx] 0) :: (I, oI) :: (C, oC) :: (D, lst ys) :: nw) ∧ (∀ p ∈ (I, oI) :: (C, oC) :: (D, lst ys) :: nw, p.1 < le)) E' { s with heap := h, toks := tk }
def RowsN (made nw : List (Addr × Obj)) (ys : List Value) (rs : List Pr) : Prop := RowsV made ys rs ∧ ∀ p ∈ made, ∀ q ∈ nw, q.1 ≠ p.1
theorem strs_get2 {vs : List Value} {ws : List Str} (y : StrsAre vs ws) {i : Nat} {v : Value} (h : vs[i]? = some v) : ∃ x t, ws[i]? = some x ∧ v = .str x t := by
  induction y generalizing i with
  | nil => simp at h
  | cons a b _ ih =>
    cases i with
    | zero => cases h; exact ⟨_, _, rfl, rfl⟩
    | succ i => exact ih h
theorem strs_len2 {vs : List Value} {ws : List Str} (y : StrsAre vs ws) : vs.length = ws.length := by
  induction y with
  | nil => rfl
  | cons _ _ _ ih => rw [List.length_cons, List.length_cons, ih]
theorem off3_of {I C D : Addr} {l : List (Addr × Obj)} (h : ∀ p ∈ l, p.1 ≠ I ∧ p.1 ≠ C ∧ p.1 ≠ D) : Off3 I C D l := Off3.of fun p hp => h p hp
section
variable {prog : Program} {w : World} {A : Around} {E : Value → Shared → Prop} {s : Shared} {h₀ : Heap} {L : Addr} {m : Str → Option Value} {env : Env}
theorem fr_but1 {h h' : Heap} {I : Addr} (F : Fr h₀ L h m) (hk : ∀ c o, c ≠ I → h.get? c = some o → h'.get? c = some o) (hIL : L ≠ I) (hI0 : h₀.get? I = none) : Fr h₀ L h' m := fr_but F (fun c o hc e => hk c o (by simpa using hc) e) hIL hI0
abbrev itO (b i n ep : Nat) (ok ov : Value) : Obj := { cls := .type "dict_itemiterator", dict := none, data := .fields #[.none, .bool false, .ref b, .int i 0, .int n 0, .int ep 0, ok, ov], slots := #[] }
structure Nk (h₀ : Heap) (L : Addr) (m : Str → Option Value) (nw : List (Addr × Obj)) (I C D : Addr) (oI : Obj) (h : Heap) (ys : List Value) (made : List (Addr × Obj)) (m' : Str → Option Value) (rs : List Pr) : Prop where
  it : h.get? I = some oI
  fr : Fr h₀ L h m
  ns : h.Ns C m'
  nws : News h₀ L h ((D, lst ys) :: (made ++ nw))
  off : ∀ p ∈ made ++ nw, p.1 ≠ I ∧ p.1 ≠ C ∧ p.1 ≠ D
  rows : RowsN made nw ys rs
inductive NkI (s₁ : Shared) (h₀ : Heap) (L : Addr) (m : Str → Option Value) (nw : List (Addr × Obj)) (es : List EntC) (n ep b I C D : Addr) : Nat → Shared → Prop
  | mk {h : Heap} {tk i : Nat} {ys : List Value} {made : List (Addr × Obj)} {m' : Str → Option Value} {ok ov : Value} : i ≤ n → Nk h₀ L m nw I C D (itO b i n ep ok ov) h ys made m' (flat (rows (es.take i))) → NkI s₁ h₀ L m nw es n ep b I C D (n + 1 - i) { s₁ with heap := h, toks := tk }
structure I2Ad (h₀ : Heap) (L I C D I2 : Addr) : Prop where
  l : I2 ≠ L
  z : h₀.get? I2 = none
  i : I ≠ I2
  c : C ≠ I2
  d : D ≠ I2
inductive N2I (s₁ : Shared) (h₀ : Heap) (L : Addr) (m : Str → Option Value) (nw : List (Addr × Obj)) (oI : Obj) (I C D : Addr) (x : EntC) (I2 : Addr) (x1 : Str) (rs : List Pr) : Nat → Shared → Prop
  | mk {h : Heap} {tk j : Nat} {ys : List Value} {made : List (Addr × Obj)} {m' : Str → Option Value} : j ≤ x.vs.toArray.size → Nk h₀ L m nw I C D oI h ys made m' (rs ++ (x.ws.take j).map fun y => (x.n, y)) → h.IsListIter I2 x.l j → (∀ p ∈ made ++ nw, p.1 ≠ I2) → m' x1 = some (.str x.n x.t) →
      N2I s₁ h₀ L m nw oI I C D x I2 x1 rs (x.vs.toArray.size + 1 - j) { s₁ with heap := h, toks := tk }
section
variable {h₀ h h' : Heap} {L ax I C D I2 : Addr} {m m' m₂ : Str → Option Value} {nw made : List (Addr × Obj)} {oI : Obj} {ys : List Value} {rs : List Pr}
theorem Nk.keeps (c : Nk h₀ L m nw I C D oI h ys made m' rs) (k : ∀ b o, h.get? b = some o → h'.get? b = some o) : Nk h₀ L m nw I C D oI h' ys made m' rs :=
  ⟨k _ _ c.it, c.fr.keeps k, c.ns.at' fun o e => k _ o e, c.nws.grown k, c.off, c.rows⟩
theorem Nk.offD (c : Nk h₀ L m nw I C D oI h ys made m' rs) (a : CpAd h₀ L ax I C D) : ∀ p ∈ (D, lst ys) :: (made ++ nw), p.1 ≠ C := fun p hp => by
  rcases List.mem_cons.mp hp with rfl | hp
  · exact a.dc
  · exact (c.off p hp).2.1
theorem Nk.but (c : Nk h₀ L m nw I C D oI h ys made m' rs) (a : I2Ad h₀ L I C D I2) (hp : ∀ p ∈ made ++ nw, p.1 ≠ I2) (k : ∀ b o, b ≠ I2 → h.get? b = some o → h'.get? b = some o) : Nk h₀ L m nw I C D oI h' ys made m' rs :=
  ⟨k _ _ a.i c.it, fr_but1 c.fr k a.l.symm a.z, c.ns.at' fun o e => k _ o a.c e, fun p hq => ⟨k _ _ (by
    rcases List.mem_cons.mp hq with rfl | hq
    · exact a.d
    · exact hp p hq) (c.nws p hq).1, (c.nws p hq).2⟩, c.off, c.rows⟩
theorem Nk.set (c : Nk h₀ L m nw I C D oI h ys made m' rs) (a : CpAd h₀ L ax I C D) (hn : h'.Ns C m₂) (hs : Heap.SameBut C h h') : Nk h₀ L m nw I C D oI h' ys made m₂ rs :=
  ⟨hs.extBut _ _ a.ic c.it, c.fr.change hs a.cl a.c0, hn, fun p hp => ⟨hs.extBut _ _ (c.offD a p hp) (c.nws p hp).1, (c.nws p hp).2⟩, c.off, c.rows⟩
theorem Nk.iter (c : Nk h₀ L m nw I C D oI h ys made m' rs) (a : CpAd h₀ L ax I C D) {o : Obj} (hi : h'.get? I = some o) (k : ∀ b o, b ≠ I → h.get? b = some o → h'.get? b = some o) : Nk h₀ L m nw I C D o h' ys made m' rs :=
  ⟨hi, fr_but1 c.fr k a.il.symm a.i0, c.ns.at' fun o e => k _ o a.ic.symm e, fun p hq => ⟨k _ _ (by
    rcases List.mem_cons.mp hq with rfl | hq
    · exact a.id.symm
    · exact (c.off p hq).1) (c.nws p hq).1, (c.nws p hq).2⟩, c.off, c.rows⟩

theorem nk_app {prog : Program} {w : World} {A : Around} {s₁ : Shared} {oC oI2 : Obj} {tk j : Nat} {x : EntC} {x1 y : Str} {ty : Tok} {le : Addr} {E : Value → Shared → Prop} (a : CpAd h₀ L ax I C D) (a2 : I2Ad h₀ L I C D I2) (hC : NsObj oC m₂) (hI2 : ∀ g : Heap, g.get? I2 = some oI2 → g.IsListIter I2 x.l (j + 1))
    (hm1 : m₂ x1 = some (.str x.n x.t)) (hj : j < x.vs.toArray.size) (hy : x.ws[j]? = some y) (hz : ys.length ≤ sizeLine) (hoff : ∀ p ∈ made ++ nw, p.1 ≠ I ∧ p.1 ≠ C ∧ p.1 ≠ D) (hoff2 : ∀ p ∈ made ++ nw, p.1 ≠ I2) (R : RowsN made nw ys (rs ++ (x.ws.take j).map fun y => (x.n, y)))
    (F : Fr h₀ L h m) (N : News h₀ L h ((le, listOf #[.str x.n x.t, .str y ty] 0) :: (I2, oI2) :: (C, oC) :: (D, lst ys) :: (I, oI) :: (made ++ nw))) (l9 : ∀ p ∈ (I2, oI2) :: (C, oC) :: (D, lst ys) :: (I, oI) :: (made ++ nw), p.1 < le) :
    wpAny (model prog w) A (call (.builtin "list.append") [.ref D, .ref le]) (fun _ s' => ∃ k, k < x.vs.toArray.size + 1 - j ∧ N2I s₁ h₀ L m nw oI I C D x I2 x1 rs k s') E { s₁ with heap := h, toks := tk } := by
  have zD := (N _ (.tail _ (.tail _ (.tail _ (.head _))))).1
  refine append_at (hsz := by show ys.toArray.size ≤ sizeLine; rw [List.size_toArray]; exact hz) zD fun h10 hs10 hD10 => ?_
  have k10 : ∀ c o, c ≠ D → h.get? c = some o → h10.get? c = some o := fun c o hc e => hs10.extBut c o hc e
  have hleD : le ≠ D := (Nat.ne_of_lt (l9 _ (.tail _ (.tail _ (.head _))))).symm
  refine ⟨x.vs.toArray.size + 1 - (j + 1), Nat.sub_lt_sub_left (Nat.lt_succ_of_lt hj) (Nat.lt_succ_self j), .mk (ys := ys ++ [.ref le]) (made := (le, listOf #[.str x.n x.t, .str y ty] 0) :: made) hj ⟨k10 _ _ a.id (N _ (.tail _ (.tail _ (.tail _ (.tail _ (.head _)))))).1, F.change hs10 a.dl a.d0, hC.ns (k10 _ _ a.dc.symm (N _ (.tail _ (.tail _ (.head _)))).1), fun p hp => ?_, fun p hp => ?_, ?_⟩
    (hI2 _ (k10 _ _ a2.d.symm (N _ (.tail _ (.head _))).1)) (fun p hp => ?_) hm1⟩
  · rcases List.mem_cons.mp hp with rfl | hp
    · exact ⟨hD10.trans (congrArg some (lst_snoc ys (.ref le))), a.dl, a.d0⟩
    · rcases List.mem_cons.mp hp with rfl | hp
      · exact ⟨k10 _ _ hleD (N _ (.head _)).1, (N _ (.head _)).2⟩
      · have z := N p (.tail _ (.tail _ (.tail _ (.tail _ (.tail _ hp)))))
        exact ⟨k10 _ _ (hoff p hp).2.2 z.1, z.2⟩
  · rcases List.mem_cons.mp hp with rfl | hp
    · exact ⟨(Nat.ne_of_lt (l9 _ (.tail _ (.tail _ (.tail _ (.head _)))))).symm, (Nat.ne_of_lt (l9 _ (.tail _ (.head _)))).symm, hleD⟩
    · exact hoff p hp
  · rw [List.take_add_one, hy]
    simp only [Option.toList_some, List.map_append, List.map_cons, List.map_nil, ← List.append_assoc]
    refine ⟨(R.1.mono fun p hp => .tail _ hp).snoc ⟨le, x.t, ty, 0, rfl, .head _⟩, fun p hp q hq => ?_⟩
    rcases List.mem_cons.mp hp with rfl | hp
    · exact Nat.ne_of_lt (l9 _ (.tail _ (.tail _ (.tail _ (.tail _ (List.mem_append.mpr (.inr hq)))))))
    · exact R.2 p hp q hq
  · rcases List.mem_cons.mp hp with rfl | hp
    · exact (Nat.ne_of_lt (l9 _ (.head _))).symm
    · exact hoff2 p hp
end

theorem nest_inner {h₀ h : Heap} {L ax I C D I2 : Addr} {m m' : Str → Option Value} {nw made : List (Addr × Obj)} {oI : Obj} {ys : List Value} {rs : List Pr} {elt t1 i1 : Expr} {x1 x3 : Str} {p3 p4 : Pos} {x2 : Str} {tk : Nat} {scope : Scope} {cl : List (Str × Addr)} {pos : Pos} {R : Result → Shared → Prop} {x : EntC}
    (hh : A.handled = none) (a : CpAd h₀ L ax I C D) (a2 : I2Ad h₀ L I C D I2) (hkind : scope.kind = .function) (hx3 : scope.names.lookup x3 = some .local) (h13 : x1 ≠ x3) (hxl : (x.l, listOf x.vs.toArray x.cap) ∈ nw) (hxs : StrsAre x.vs x.ws) (hlen : rs.length + x.ws.length ≤ sizeLine)
    (helt : ∀ g, Elt2 prog w A h₀ L m env elt x1 x3 scope cl { s with heap := g }) (c : Nk h₀ L m nw I C D oI h ys made m' rs) (hst : h.IsListIter I2 x.l 0) (hoff2 : ∀ p ∈ made ++ nw, p.1 ≠ I2) (hm1 : m' x1 = some (.str x.n x.t))
    (hR : ∀ h tk ys made m', Nk h₀ L m nw I C D oI h ys made m' (rs ++ x.ws.map fun y => (x.n, y)) → R (.ok .next) { s with heap := h, toks := tk }) :
    codeAny (model prog w) A (.compStart (.ListComp elt [⟨t1, i1, [], 0⟩, ⟨.Name x3 p3, .Name x2 p4, [], 0⟩] scope pos) 1 (.ref I2) (.ref D) (compEnvC scope cl C env)) R { s with heap := h, toks := tk } := by
  have hxsl := strs_len2 hxs
  have hl : h.IsList x.l x.vs.toArray := ⟨_, (c.nws _ (.tail _ (List.mem_append.mpr (.inr hxl)))).1, rfl, _, rfl⟩
  have hne : x.l ≠ I2 := hoff2 _ (List.mem_append.mpr (.inr hxl))
  have Wk := Walks.list (prog := prog) (w := w) hh I2 x.l hne x.vs.toArray
  refine (fun loop => nest1_start loop (Wk.self 0 _ _ _ ⟨hst, hl⟩ loop)) ?_
  refine nest1_loop (N2I s h₀ L m nw oI I C D x I2 x1 rs) ?_ (x.vs.toArray.size + 1) (.mk (j := 0) (Nat.zero_le _) (by rw [List.take_zero, List.map_nil, List.append_nil]; exact c) hst hoff2 hm1)
  clear c hst hl hoff2 hm1
  rintro _ _ @⟨h, tk, j, ys, made, m', hj, c, hst, hoff2, hm1⟩
  have hl : h.IsList x.l x.vs.toArray := ⟨_, (c.nws _ (.tail _ (List.mem_append.mpr (.inr hxl)))).1, rfl, _, rfl⟩
  have off1 : ∀ {h' : Heap}, (∀ b o, b ∉ [I2] → h.get? b = some o → h'.get? b = some o) → ∀ b o, b ≠ I2 → h.get? b = some o → h'.get? b = some o := fun hk b o hb e => hk b o (by rw [List.mem_singleton]; exact hb) e
  rcases Nat.lt_or_ge j x.vs.toArray.size with hjt | hge
  · refine Wk.item j _ _ _ hjt ⟨hst, hl⟩ fun v h₂ tk₂ hPv hst₂ hk₂ => ?_
    obtain ⟨y, ty, hy, rfl⟩ := strs_get2 hxs (by simpa using hPv)
    replace c := c.but a2 hoff2 (off1 hk₂)
    clear off1 hk₂ hl hst
    refine wpAny_assign_Name (wpAny_storeName_local (lookup_relabel_local hx3) c.ns (fun h6 hn6 hs6 => ?_) (by simp [compEnvC, relabel, hkind]))
    replace c := c.set a hn6 hs6
    obtain ⟨oI2, heI2, hoI2⟩ := hst₂.1
    replace heI2 := hs6.extBut _ _ a2.c.symm heI2
    obtain ⟨oC, heC, hoC⟩ := ns_obj c.ns
    have N6 : News h₀ L h6 ((I2, oI2) :: (C, oC) :: (D, lst ys) :: ((I, oI) :: (made ++ nw))) := fun p hp => by
      rcases List.mem_cons.mp hp with rfl | hp
      · exact ⟨heI2, a2.l, a2.z⟩
      · rcases List.mem_cons.mp hp with rfl | hp
        · exact ⟨heC, a.cl, a.c0⟩
        · rcases List.mem_cons.mp hp with rfl | hp
          · exact c.nws _ (.head _)
          · rcases List.mem_cons.mp hp with rfl | hp
            · exact ⟨c.it, a.il, a.i0⟩
            · exact c.nws _ (.tail _ hp)
    refine wpAny_mono (helt s.heap x.n y x.t ty ys _ I2 oI2 C oC D _ h6 _ _ hoC (by simp [h13, hm1]) (by simp) c.fr N6 (off3_of fun p hp => by
      rcases List.mem_cons.mp hp with rfl | hp
      · exact ⟨a2.i, a.ic, a.id⟩
      · exact ⟨hoff2 p hp, (c.off p hp).2.1, (c.off p hp).2.2⟩) ⟨a2.c.symm, a2.d.symm, a.dc.symm⟩) (fun y9 s₄ hc => ?_) fun _ _ e => e
    obtain ⟨le, h9, tk9, rfl, rfl, F9, N9, l9⟩ := hc
    have hysl : ys.length ≤ sizeLine := by
      have e1 := c.rows.1.length
      rw [List.length_append, List.length_map, List.length_take] at e1
      rw [e1]
      exact Nat.le_trans (Nat.add_le_add_left (Nat.min_le_right _ _) _) hlen
    exact nk_app a a2 hoC (fun g e => ⟨oI2, e, hoI2⟩) (by simp [h13, hm1]) hjt hy hysl c.off hoff2 c.rows F9 N9 l9
  · obtain rfl : j = x.vs.toArray.size := Nat.le_antisymm hj hge
    refine Wk.done _ _ _ ⟨hst, hl⟩ fun h₂ tk₂ hk₂ => ?_
    have e9 : x.ws.take x.vs.toArray.size = x.ws := by rw [List.size_toArray, hxsl, List.take_length]
    rw [e9] at c
    exact hR h₂ tk₂ ys made m' (c.but a2 hoff2 (off1 hk₂))
theorem nest_rows {elt i1 : Expr} {x1 x2 x3 : Str} {p1 p2 p3 p4 tp : Pos} {tk0} {scope : Scope} {cl : List (Str × Addr)} {pos : Pos} {Q : Value → Shared → Prop}
    (_F₀ : Fr h₀ L s.heap m) (hclos : closureFor scope env = pure cl) (hcell : ∀ y ∈ scope.names, y.2 ≠ .cell) (hkind : scope.kind = .function) (hnames : ∀ y ∈ scope.names, y.2 = .local → scope.names.lookup y.1 = some .local)
    (hx1 : scope.names.lookup x1 = some .local) (hx2 : scope.names.lookup x2 = some .local) (hx3 : scope.names.lookup x3 = some .local) (h12 : x1 ≠ x2) (h13 : x1 ≠ x3) (h23 : x2 ≠ x3) (hdb : (x2 == ("__debug__" : Str)) = false)
    (h : wpAny (model prog w) A (eval i1 env) (fun xv s₁ => ∃ v b ob ents ep nw, ∃ es : List EntC, xv = .ref v ∧ A.handled = none ∧ Fr h₀ L s₁.heap m ∧ News h₀ L s₁.heap nw ∧ (v, ({ cls := .type "dict_items", data := .fields #[.ref b] } : Obj)) ∈ nw ∧ (b, ob) ∈ nw ∧ ob.data = .dict ents ep ∧
      ents.size = es.length ∧ (∀ (i : Nat) (x : EntC), es[i]? = some x → ∃ en, ents[i]? = some en ∧ en.key = .str x.n x.t ∧ en.val = .ref x.l ∧ (x.l, listOf x.vs.toArray x.cap) ∈ nw ∧ StrsAre x.vs x.ws) ∧ (flat (rows es)).length < sizeLine ∧
      (∀ g, Elt2 prog w A h₀ L m env elt x1 x3 scope cl { s₁ with heap := g }) ∧
      ∀ D h tk ys made, Fr h₀ L h m → News h₀ L h ((D, lst ys) :: (made ++ nw)) → (∀ p ∈ made ++ nw, p.1 ≠ D) → RowsN made nw ys (flat (rows es)) → Q (.ref D) { s₁ with heap := h, toks := tk }) E s)
    (hs : ∀ x, foldedSetIterable i1 env x = pure x := by intro _; rfl) (hs2 : ∀ C x, foldedSetIterable (.Name x2 p4) (compEnvC scope cl C env) x = pure x := by intro _ _; rfl) :
    wpAny (model prog w) A (eval (.ListComp elt [⟨.Tuple [.Name x1 p1, .Name x2 p2] tk0 tp, i1, [], 0⟩, ⟨.Name x3 p3, .Name x2 p4, [], 0⟩] scope pos) env) Q E s := by
  rw [eval_ListComp]
  refine wpAny_comprehension_free (use := none) rfl hs hclos hkind hnames (wpAny_mono h (fun xv s₁ h₁ => ?_) fun _ _ e => e)
  obtain ⟨v, b, ob, ents, ep, nw, es, rfl, hh, F, N, hv, hb, hob, hes, hent, hsz, helt, hfin⟩ := h₁
  have nlt : ∀ p ∈ nw, p.1 < s₁.heap.objs.size := fun p hp => Heap.lt_size (N p hp).1
  have hLI : L < s₁.heap.objs.size := F.ns.lt
  have hab : h₀.objs.size ≤ L := F.above
  refine bk_iter (N _ hv).1 (N _ hb).1 hob ?_
  have hit : (s₁.heap.push (itO b 0 ents.size ep .none .none)).get? s₁.heap.objs.size = some (itO b 0 ents.size ep .none .none) := Heap.get?_push_size _ rfl
  have up : ∀ c o, s₁.heap.get? c = some o → (s₁.heap.push (itO b 0 ents.size ep .none .none)).get? c = some o := fun c o e => Heap.get?_push_of_some _ e
  have hsz1 : (s₁.heap.push (itO b 0 ents.size ep .none .none)).objs.size = s₁.heap.objs.size + 1 := Heap.size_push _ _
  replace F := F.keeps up
  replace N := N.grown up
  show wpAny _ _ _ _ _ { s₁ with heap := s₁.heap.push (itO b 0 ents.size ep .none .none) }
  clear up
  generalize s₁.heap.push (itO b 0 ents.size ep .none .none) = H1 at *
  generalize s₁.heap.objs.size = I at *
  refine cp_env (s₁ := s₁) (post := fun acc C => compPost (model prog w) A E none Q acc C) hsz1 hcell hkind fun h₁ tk₁ m₀ old hacc hns₁ => ?_
  have h0 : ∀ a : Nat, I ≤ a → h₀.get? a = none := fun a ha => Heap.get?_none_of_le (Nat.le_trans hab (Nat.le_of_lt (Nat.lt_of_lt_of_le hLI ha)))
  have neI : ∀ a : Nat, I ≤ a → ∀ p ∈ nw, p.1 ≠ a := fun a ha p hp => Nat.ne_of_lt (Nat.lt_of_lt_of_le (nlt p hp) ha)
  have neL : ∀ a : Nat, I ≤ a → a ≠ L := fun a ha => (Nat.ne_of_lt (Nat.lt_of_lt_of_le hLI ha)).symm
  have le1 : I ≤ I + 1 := Nat.le_succ _
  have le2 : I ≤ I + 1 + 1 := Nat.le_succ_of_le le1
  have a : CpAd h₀ L b I (I + 1 + 1) (I + 1) := ⟨neL _ (Nat.le_refl _), neL _ le2, neL _ le1, h0 _ (Nat.le_refl _), h0 _ le2, h0 _ le1, Nat.ne_of_lt (Nat.lt_succ_self _), Nat.ne_of_lt (Nat.lt_succ_self _), Nat.ne_of_lt (Nat.lt_succ_of_lt (Nat.lt_succ_self _)),
    neI _ le2 _ hb, neI _ le1 _ hb⟩
  have c0 : Nk h₀ L m nw I (I + 1 + 1) (I + 1) (itO b 0 ents.size ep .none .none) h₁ [] [] m₀ [] := ⟨old _ _ hit, F.keeps old, hns₁, fun p hp => by
    rcases List.mem_cons.mp hp with rfl | hp
    · exact ⟨hacc, a.dl, a.d0⟩
    · exact ⟨old _ _ (N p hp).1, (N p hp).2⟩, fun p hp => ⟨neI _ (Nat.le_refl _) p hp, neI _ le2 p hp, neI _ le1 p hp⟩, .nil, fun p hp => nomatch hp⟩
  have hbI : b ≠ I := neI _ (Nat.le_refl _) _ hb
  clear hit F N nlt hLI hsz1 hab old hacc hns₁ h0 neI neL le1 le2
  generalize I + 1 + 1 = C at *
  generalize I + 1 = D at *
  refine (fun loop => codeAny_compStart_list loop (kcp_self c0.it loop)) ?_
  refine nest0_loop (NkI s₁ h₀ L m nw es ents.size ep b I C D) (hs2 _) ?_ (ents.size + 1) (.mk (i := 0) (Nat.zero_le _) c0)
  clear c0
  rintro _ _ @⟨h, tk, i, ys, made, m', ok, ov, hi, c⟩
  have hb' : h.get? b = some ob := (c.nws _ (.tail _ (List.mem_append.mpr (.inr hb)))).1
  rcases Nat.lt_or_ge i ents.size with hlt' | hge
  · obtain ⟨x, hx⟩ : ∃ x, es[i]? = some x := ⟨_, List.getElem?_eq_getElem (hes ▸ hlt')⟩
    obtain ⟨en, hen, hkey, hval, hxl, hxs⟩ := hent i x hx
    refine bk_next c.it hb' hob hen fun h₂ he₂ ht₂ hk₂ => ?_
    have hTI : h.objs.size ≠ I := (Nat.ne_of_lt (Heap.lt_size c.it)).symm
    refine wpAny_letOwnedTupleGo_items he₂ fun h₃ he₃ hs₃ => ?_
    have ht : IsTup h₃ h.objs.size #[en.key, en.val] := ⟨_, hs₃.extBut _ _ hTI ht₂, rfl, _, rfl⟩
    replace c := c.iter a he₃ fun b o hb e => hs₃.extBut _ _ hb (hk₂ b o hb e)
    clear hk₂ he₂ ht₂ hs₃ he₃ hb'
    refine assign_Tuple_tuple hh ht rfl rfl fun h₅ he => ?_
    replace c := c.keeps fun b o e => he b o (Nat.ne_of_lt (Heap.lt_size e)) e
    clear he ht hTI
    refine assignInOrder_cons (wpAny_assign_Name (wpAny_storeName_local (lookup_relabel_local hx1) c.ns (fun h6 hn6 hs6 => ?_) (by simp [compEnvC, relabel, hkind])))
    replace c := c.set a hn6 hs6
    clear hn6 hs6
    refine assignInOrder_cons (wpAny_assign_Name (wpAny_storeName_local (lookup_relabel_local hx2) c.ns (fun h7 hn7 hs7 => ?_) (by simp [compEnvC, relabel, hkind])))
    replace c := c.set a hn7 hs7
    clear hn7 hs7
    refine assignInOrder_nil ?_
    refine wpAny_Name (wpAny_loadName_local (v := en.val) hkind (lookup_relabel_local hx2) c.ns (by simp) ?_) hdb
    rw [hval]
    have hl7 : h7.IsList x.l x.vs.toArray := ⟨_, (c.nws _ (.tail _ (List.mem_append.mpr (.inr hxl)))).1, rfl, _, rfl⟩
    refine wpAny_pyIter_list hl7 ?_
    have hst8 : (h7.push { cls := .type "list_iterator", data := .fields #[.ref x.l, .int 0 0] }).IsListIter h7.objs.size x.l 0 := ⟨_, Heap.get?_push_size _ rfl, rfl, rfl⟩
    have hI2 : ∀ c o, h7.get? c = some o → c ≠ h7.objs.size := fun c o e => Nat.ne_of_lt (Heap.lt_size e)
    have a2 : I2Ad h₀ L I C D h7.objs.size := ⟨(Nat.ne_of_lt c.fr.ns.lt).symm, next_is_new c.fr, hI2 _ _ c.it, by obtain ⟨oC7, hoC7, _⟩ := ns_obj c.ns; exact hI2 _ _ hoC7, hI2 _ _ (c.nws _ (.head _)).1⟩
    have hI2n : ∀ p ∈ made ++ nw, p.1 ≠ h7.objs.size := fun p hp => hI2 _ _ (c.nws _ (.tail _ hp)).1
    replace c := c.keeps fun b o e => Heap.get?_push_of_some { cls := .type "list_iterator", data := .fields #[.ref x.l, .int 0 0] } e
    have hflat : flat (rows (es.take (i + 1))) = flat (rows (es.take i)) ++ x.ws.map fun y => (x.n, y) := by
      rw [List.take_add_one, hx]
      show flat (rows (es.take i ++ [x])) = _
      rw [show rows (es.take i ++ [x]) = rows (es.take i) ++ [(x.n, x.ws)] by unfold rows; rw [List.map_append]; rfl, flat_snoc]
    have hle : (flat (rows (es.take (i + 1)))).length ≤ (flat (rows es)).length := by
      conv => rhs; rw [← List.take_append_drop (i + 1) es]
      unfold rows flat
      rw [List.map_append, List.flatMap_append, List.length_append]
      exact Nat.le_add_right _ _
    rw [hflat, List.length_append, List.length_map] at hle
    refine nest_inner hh a a2 hkind hx3 h13 hxl hxs (Nat.le_trans hle (Nat.le_of_lt hsz)) helt c hst8 hI2n (by simp [h12, hkey]) fun h tk ys made m' c => ?_
    rw [← hflat] at c
    exact ⟨ents.size + 1 - (i + 1), Nat.sub_lt_sub_left (Nat.lt_succ_of_lt hlt') (Nat.lt_succ_self i), .mk hlt' c⟩
  · obtain rfl : i = ents.size := Nat.le_antisymm hi hge
    refine bk_end hh c.it hb' hob (Nat.le_refl _) fun h₂ hk₂ => ?_
    have e9 : es.take ents.size = es := by rw [hes, List.take_length]
    rw [e9] at c
    have N₂ : News h₀ L h₂ ((D, lst ys) :: (made ++ nw)) := fun p hp => ⟨hk₂ _ _ (by
      rcases List.mem_cons.mp hp with rfl | hp
      · exact a.id.symm
      · exact (c.off p hp).1) (c.nws p hp).1, (c.nws p hp).2⟩
    exact ⟨m', c.ns.at' fun o e => hk₂ _ o a.ic.symm e, fun h'' hs'' => hfin D h'' _ ys made ((fr_but1 c.fr hk₂ a.il.symm a.i0).change hs'' a.cl a.c0) (fun p hp => ⟨hs''.extBut _ _ (c.offD a p hp) (N₂ p hp).1, (N₂ p hp).2⟩) (fun p hp => (c.off p hp).2.2) c.rows⟩
end
end
section
open PySem PySem.W PySem.Calls
open PyProof.Rows hiding wpAt wpAt_mono wpAt_bind wpAt_stack strKind
open PySem.W.X (Mem)
set_option Elab.async false
set_option maxRecDepth 100000
set_option maxHeartbeats 2000000
set_option pp.deepTerms false
set_option pp.maxSteps 3000
open LCg
open PyProof.Rows hiding wpAt
inductive BkSt (h : Heap) (it b S : Addr) (i n ep : Nat) : Prop where
  | first (ok ov : Value) : BkIt h it b i n ep .none false ok ov → BkSt h it b S i n ep
  | out (a : Addr) (oa : Obj) (f : Bool) (ok ov : Value) : BkIt h it b i n ep (rawInt a) f ok ov → h.get? a = some oa → a ≠ it → a ≠ S → BkSt h it b S i n ep
inductive Tups (h : Heap) : Nat → List DictEntry → List Addr → Prop
  | nil (lo : Nat) : Tups h lo [] []
  | cons {lo : Nat} {e : DictEntry} {t : Addr} {es : List DictEntry} {ts : List Addr} : lo ≤ t → h.get? t = some { cls := .type "tuple", data := .seq #[e.key, e.val] } → Tups h lo es ts → Tups h lo (e :: es) (t :: ts)
theorem Tups.low {h : Heap} {lo lo' : Nat} {es : List DictEntry} {ts : List Addr} (g : Tups h lo es ts) (hl : lo' ≤ lo) : Tups h lo' es ts := by
  induction g with
  | nil => exact .nil _
  | cons a b _ ih => exact .cons (Nat.le_trans hl a) b ih
section
variable {prog : Program} {w : World} {A : Around} {E : Value → Shared → Prop} {b : Addr} {ob : Obj} {es : Array DictEntry} {ep : Nat}
theorem bk_alive {s : Shared} {a : Addr} {o : Obj} {Q : Option Obj → Shared → Prop} (ho : s.heap.get? a = some o) (h : Q (some o) s) : wpAny (model prog w) A (loadIfAlive a) Q E s := by
  have h' : Q (s.heap.get? a) s := by rw [ho]; exact h
  exact fun _ _ _ => h'
theorem bk_pair {hp : Heap} {gs : Array GenState} {dr : Drawn} {tk : Nat} {os : OsState} {it S : Addr} {i n : Nat} {k v : Value} {Q : Value → Shared → Prop} (st : BkSt hp it b S i n ep) (hS : S < hp.objs.size)
    (hQ : ∀ h', BkSt h' it b S i n ep → h'.get? hp.objs.size = some { cls := .type "tuple", data := .seq #[k, v] } → (∀ c o, c ≠ it → hp.get? c = some o → h'.get? c = some o) → Q (.ref hp.objs.size) ⟨h', gs, dr, tk, os⟩) :
    wpAny (model prog w) A (Builtin.Dict_items.pairFromOwner (.ref it) 6 k v) Q E ⟨hp, gs, dr, tk, os⟩ := by
  rcases st with ⟨ok, ov, e⟩ | ⟨a, oa, f, ok, ov, e, ha, hai, haS⟩
  · exact bk_pairF e fun h' e' t' k' => hQ h' (.out _ _ _ _ _ e' t' (Nat.ne_of_gt (Heap.lt_size e)) (Nat.ne_of_gt hS)) t' k'
  have hil : it < hp.objs.size := Heap.lt_size e
  unfold Builtin.Dict_items.pairFromOwner
  refine wpAny_bind (wpAny_newTuple ?_)
  have up : ∀ c o, hp.get? c = some o → (hp.push { cls := .type "tuple", data := .seq #[k, v] }).get? c = some o := fun c o e => Heap.get?_push_of_some _ e
  have t₂ : (hp.push { cls := .type "tuple", data := .seq #[k, v] }).get? hp.objs.size = some { cls := .type "tuple", data := .seq #[k, v] } := Heap.get?_push_size _ rfl
  replace e := up _ _ e
  replace ha := up _ _ ha
  show wpAny _ _ (Builtin.Dict_items.ownedTupleIsFree (.ref it) >>= _) _ _ ⟨hp.push { cls := .type "tuple", data := .seq #[k, v] }, gs, dr, tk, os⟩
  generalize hp.push { cls := .type "tuple", data := .seq #[k, v] } = h₂ at *
  refine wpAny_bind ?_
  unfold Builtin.Dict_items.ownedTupleIsFree
  refine wpAny_bind (wpAny_field e rfl (x := rawInt a) rfl ?_)
  show wpAny _ _ (loadIfAlive ((a : Int).toNat) >>= _) _ _ _
  rw [Int.toNat_natCast]
  refine wpAny_bind (bk_alive ha ?_)
  simp only [Option.isNone_some, Bool.false_eq_true, if_false]
  refine wpAny_bind (wpAny_field e rfl (x := .bool f) rfl ?_)
  cases f with
  | true =>
    rw [if_neg (show ¬ ((Value.bool true != Value.bool true) = true) from Bool.false_ne_true)]
    refine wpAny_pure ?_
    rw [if_neg Bool.false_ne_true]
    exact wpAny_pure (hQ h₂ (.out a oa _ ok ov e ha hai haS) t₂ fun c o _ e => up c o e)
  | false =>
    rw [if_pos (show (Value.bool false != Value.bool true) = true from rfl)]
    refine wpAny_bind (wpAny_setField_rec e (by simp) fun h₃ e₃ s₃ => wpAny_pure ?_)
    replace s₃ : Heap.SameBut it h₂ h₃ := s₃
    rw [if_neg Bool.false_ne_true]
    exact wpAny_pure (hQ h₃ (.out a oa true ok ov e₃ (s₃.extBut _ _ hai ha) hai haS) (s₃.extBut _ _ (Nat.ne_of_gt hil) t₂) fun c o hc e => s₃.extBut c o hc (up c o e))
theorem BkSt.at {h : Heap} {it S : Addr} {i n : Nat} (st : BkSt h it b S i n ep) : ∃ o0 f ok ov, BkIt h it b i n ep o0 f ok ov ∧ ∀ h', BkIt h' it b (i + 1) n ep o0 f ok ov → (∀ c o, c ≠ it → h.get? c = some o → h'.get? c = some o) → BkSt h' it b S (i + 1) n ep := by
  rcases st with ⟨ok, ov, e⟩ | ⟨a, oa, f, ok, ov, e, ha, hai, haS⟩
  · exact ⟨_, _, _, _, e, fun h' e' _ => .first ok ov e'⟩
  · exact ⟨_, _, _, _, e, fun h' e' k => .out a oa f ok ov e' (k _ _ hai ha) hai haS⟩
theorem bk_turn {s : Shared} {it S : Addr} {i : Nat} {en : DictEntry} {Q : Option Value → Shared → Prop} (st : BkSt s.heap it b S i es.size ep) (hS : S < s.heap.objs.size) (ho : s.heap.get? b = some ob) (hd : ob.data = .dict es ep) (hx : es[i]? = some en)
    (hQ : ∀ h', BkSt h' it b S (i + 1) es.size ep → h'.get? s.heap.objs.size = some { cls := .type "tuple", data := .seq #[en.key, en.val] } →
      (∀ c o, c ≠ it → s.heap.get? c = some o → h'.get? c = some o) → Q (some (.ref s.heap.objs.size)) { s with heap := h' }) :
    wpAny (model prog w) A (pyNext (.ref it)) Q E s := by
  obtain ⟨o0, f, ok, ov, hit, next⟩ := st.at
  refine bk_core hit ho hd hx fun h₁ A' Q' E' e₁ z₁ k₁ q => ?_
  refine bk_pair (next h₁ e₁ k₁) (by rw [z₁]; exact hS) fun h' st' t' k' => ?_
  rw [z₁] at t' ⊢
  exact q _ h' (hQ h' st' t' fun c o hc e => k' c o hc (k₁ c o hc e))
theorem bk_done {s : Shared} {it S : Addr} {i : Nat} {Q : Option Value → Shared → Prop} (hh : A.handled = none) (st : BkSt s.heap it b S i es.size ep) (ho : s.heap.get? b = some ob) (hd : ob.data = .dict es ep) (hx : es.size ≤ i)
    (hQ : ∀ h', Heap.ExtBut it s.heap h' → Q none { s with heap := h' }) : wpAny (model prog w) A (pyNext (.ref it)) Q E s := by
  obtain ⟨o0, f, ok, ov, hit, -⟩ := st.at
  exact bk_last hh hit ho hd hx hQ
theorem bk_loop {s : Shared} {R : Result → Shared → Prop} {S I : Addr} (hh : A.handled = none) (hSI : S ≠ I) (hbS : b ≠ S) (hbI : b ≠ I) (hd : ob.data = .dict es ep) (hn : es.size ≤ sizeLine) (res : Value) :
    ∀ (rest : List DictEntry) (i : Nat) (h : Heap) (tk c : Nat) (us : List Value), es.toList.drop i = rest → us.length = i → BkSt h I b S i es.size ep → h.get? b = some ob → h.get? S = some (listOf us.toArray c) →
      (∀ h' tk' c' ts, (∀ a o, a ≠ S → a ≠ I → h.get? a = some o → h'.get? a = some o) → h'.get? S = some (listOf (us ++ ts.map Value.ref).toArray c') → Tups h' h.objs.size rest ts → R (.ok (.ret res)) { s with heap := h', toks := tk' }) →
      codeAny (model prog w) A (.builtin "list.extend.loop" ⟨[.ref S, .ref I, res], []⟩) R { s with heap := h, toks := tk } := by
  intro rest
  induction rest with
  | nil =>
    intro i h tk c us hr hu st hb hS hR
    refine codeAny_builtin PySem.F.entry_extend_loop ?_
    rw [Around.under_plainId PySem.F.plain_extend_loop _]
    show wpAny _ A.in1 (pyNext (.ref I) >>= _) _ _ _
    have hi : es.size ≤ i := by
      have := congrArg List.length hr
      rw [List.length_drop, List.length_nil, Array.length_toList] at this
      omega
    refine wpAny_bind (bk_done (s := { s with heap := h, toks := tk }) (A := A.in1) hh st hb hd hi fun h' he => ?_)
    exact wpAny_pure (hR h' tk c [] (fun a o _ h2 e => he a o h2 e) (by rw [List.map_nil, List.append_nil]; exact he S _ hSI hS) (.nil _))
  | cons e rest ih =>
    intro i h tk c us hr hu st hb hS hR
    have hlt : i < es.size := by
      rcases Nat.lt_or_ge i es.size with h1 | h1
      · exact h1
      · rw [List.drop_eq_nil_of_le (by rw [Array.length_toList]; exact h1)] at hr; cases hr
    have hdr := List.drop_eq_getElem_cons (l := es.toList) (i := i) (by rw [Array.length_toList]; exact hlt)
    rw [hr] at hdr
    obtain ⟨he, hrest⟩ := List.cons.inj hdr
    have hx : es[i]? = some e := by rw [Array.getElem?_eq_getElem hlt, he, Array.getElem_toList]
    refine codeAny_builtin PySem.F.entry_extend_loop ?_
    rw [Around.under_plainId PySem.F.plain_extend_loop _]
    show wpAny _ A.in1 (pyNext (.ref I) >>= _) _ _ _
    have hSl : S < h.objs.size := Heap.lt_size hS
    refine wpAny_bind (bk_turn (s := { s with heap := h, toks := tk }) (S := S) st hSl hb hd hx fun h' st' ht hk => ?_)
    dsimp only at ht hk ⊢
    have hS' := hk S _ hSI hS
    have up : ∀ a o, a ≠ S → h'.get? a = some o → (h'.update S (Obj.mapSeq (·.push (Value.ref h.objs.size)))).get? a = some o := fun a o hb e => (Heap.get?_update_other _ _ (Ne.symm hb)).trans e
    show wpAny _ A.in1 (updateSeq S (·.push (Value.ref h.objs.size)) >>= _) _ _ _
    refine wpAny_bind (wpAny_updateSeq hS' rfl (wpAny_pure ⟨plainId_quiet PySem.F.plain_extend_loop _, ?_⟩) (by rw [List.size_toArray]; omega) (by show (us.toArray.push (Value.ref h.objs.size)).size ≤ sizeLine + 1; rw [Array.size_push, List.size_toArray]; omega))
    have st2 : BkSt (h'.update S (Obj.mapSeq (·.push (Value.ref h.objs.size)))) I b S (i + 1) es.size ep := by
      rcases st' with ⟨ok, ov, x⟩ | ⟨a, oa, f, ok, ov, x, ha, hai, haS⟩
      · exact .first ok ov (up _ _ hSI.symm x)
      · exact .out a oa f ok ov (up _ _ hSI.symm x) (up _ _ haS ha) hai haS
    have hself := Heap.get?_update_self (Obj.mapSeq (·.push (Value.ref h.objs.size))) hS' rfl
    have t2 := up _ _ (Nat.ne_of_gt hSl) ht
    generalize h'.update S (Obj.mapSeq (·.push (Value.ref h.objs.size))) = h2 at *
    have hsz : h.objs.size < h2.objs.size := Heap.lt_size t2
    have tI : h.objs.size ≠ I := (Nat.ne_of_lt (by rcases st with ⟨_, _, x⟩ | ⟨_, _, _, _, _, x, _⟩ <;> exact Heap.lt_size x)).symm
    refine ih (i + 1) h2 tk (c + 1) (us ++ [Value.ref h.objs.size]) hrest.symm (by rw [List.length_append, hu]; rfl) st2 (up _ _ hbS (hk _ _ hbI hb)) (hself.trans (by simp [Obj.mapSeq, W.listOf])) fun h3 tk' c' ts hk3 hS3 hT => ?_
    refine hR h3 tk' c' (h.objs.size :: ts) (fun a o h1 h2 e => hk3 a o h1 h2 (up a o h1 (hk a o h2 e))) (by rw [List.append_assoc] at hS3; exact hS3) (.cons (Nat.le_refl _) (hk3 _ _ (Nat.ne_of_gt hSl) tI t2) (hT.low (Nat.le_of_lt hsz)))
theorem bk_call {s : Shared} {Q : Value → Shared → Prop} {v : Addr} (hh : A.handled = none) (hv : s.heap.get? v = some { cls := .type "dict_items", data := .fields #[.ref b] }) (hb : s.heap.get? b = some ob) (hd : ob.data = .dict es ep) (hn : es.size ≤ sizeLine)
    (hQ : ∀ h' tk c ts, (∀ a o, s.heap.get? a = some o → h'.get? a = some o) → h'.get? s.heap.objs.size = some (listOf (ts.map Value.ref).toArray c) → Tups h' (s.heap.objs.size + 1) es.toList ts → Q (.ref s.heap.objs.size) { s with heap := h', toks := tk }) :
    wpAny (model prog w) A (call (.type "list") [.ref v]) Q E s := by
  refine callType_codes (Q₁ := fun obj s₁ => obj = .ref s.heap.objs.size ∧ s₁ = { s with heap := s.heap.push { cls := .type "list", data := .seq #[] } }) PySem.F.called_list (PySem.F.typeCall_list_1 _) PySem.F.entry_list_init
    (code_list_new _ ⟨rfl, rfl⟩) fun obj s₁ h₁ => ?_
  obtain ⟨rfl, rfl⟩ := h₁
  have hS : (s.heap.push { cls := .type "list", data := .seq #[] }).get? s.heap.objs.size = some { cls := .type "list", data := .seq #[] } := Heap.get?_push_size _ rfl
  have up : ∀ a o, s.heap.get? a = some o → (s.heap.push { cls := .type "list", data := .seq #[] }).get? a = some o := fun a o e => Heap.get?_push_of_some _ e
  have hvS : v ≠ s.heap.objs.size := Nat.ne_of_lt (Heap.lt_size hv)
  have hbS : b ≠ s.heap.objs.size := Nat.ne_of_lt (Heap.lt_size hb)
  have old : ∀ a o, s.heap.get? a = some o → a ≠ s.heap.objs.size := fun a o e => Nat.ne_of_lt (Heap.lt_size e)
  have zS : (s.heap.push { cls := .type "list", data := .seq #[] }).objs.size = s.heap.objs.size + 1 := Heap.size_push _ _
  refine ⟨⟨_, hS, rfl⟩, PySem.F.args_list_init_2 _ _, ?_⟩
  replace hv := up _ _ hv
  replace hb := up _ _ hb
  generalize s.heap.push { cls := .type "list", data := .seq #[] } = h1 at *
  generalize s.heap.objs.size = S at *
  show wpAny _ _ (do let old ← Builtin.List.listItems (.ref S); Builtin.List.listUpdate (.ref S) (fun _ => #[]); letGo old.toList.reverse; Builtin.List.listExtendWith (.ref S) (.ref v) .none) _ _ _
  refine wpAny_bind ?_
  unfold Builtin.List.listItems
  refine wpAny_bind (wpAny_seqItems hS rfl (wpAny_pure ?_))
  show wpAny _ _ (updateSeq S (fun _ => #[]) >>= fun _ => letGo (#[] : Array Value).toList.reverse >>= fun _ => Builtin.List.listExtendWith (.ref S) (.ref v) .none) _ _ _
  refine wpAny_bind (wpAny_updateSeq hS rfl ?_)
  have hS₂ := Heap.get?_update_self (Obj.mapSeq (fun _ => (#[] : Array Value))) hS rfl
  have oth : ∀ a o, a ≠ S → h1.get? a = some o → (h1.update S (Obj.mapSeq (fun _ => (#[] : Array Value)))).get? a = some o := fun a o hb e => (Heap.get?_update_other _ _ (Ne.symm hb)).trans e
  have z2 : (h1.update S (Obj.mapSeq (fun _ => (#[] : Array Value)))).objs.size = S + 1 := (Heap.SameBut.update ..).1.trans zS
  replace hv := oth _ _ hvS hv
  replace hb := oth _ _ hbS hb
  replace up : ∀ a o, a ≠ S → s.heap.get? a = some o → (h1.update S (Obj.mapSeq (fun _ => (#[] : Array Value)))).get? a = some o := fun a o h e => oth a o h (up a o e)
  refine wpAny_bind (wpAny_letGo ?_)
  generalize h1.update S (Obj.mapSeq (fun _ => (#[] : Array Value))) = h2 at *
  dsimp only
  clear oth hS zS h1
  unfold Builtin.List.listExtendWith
  refine wpAny_bind (wpAny_typeOf (T := "dict_items") ⟨_, hv, rfl⟩ ?_)
  have e1 : Builtin.List.listSameRef (.ref S) (.ref v) = false := by simp [Builtin.List.listSameRef, Ne.symm hvS]
  have e2 : (Value.type "dict_items" == Value.type "list") = false := by decide
  have e3 : (Value.type "dict_items" == Value.type "tuple") = false := by decide
  simp only [e1, e2, e3, Bool.or_false, Bool.false_eq_true, if_false]
  refine wpAny_bind (bk_iter hv hb hd ?_)
  have up3 : ∀ a o, h2.get? a = some o → (h2.push { cls := .type "dict_itemiterator", data := .fields #[.none, .bool false, .ref b, .int 0 0, .int es.size 0, .int ep 0, .none, .none] }).get? a = some o := fun a o e => Heap.get?_push_of_some _ e
  have hI : BkIt (h2.push { cls := .type "dict_itemiterator", data := .fields #[.none, .bool false, .ref b, .int 0 0, .int es.size 0, .int ep 0, .none, .none] }) h2.objs.size b 0 es.size ep .none false .none .none := Heap.get?_push_size _ rfl
  have z3 : (h2.push { cls := .type "dict_itemiterator", data := .fields #[.none, .bool false, .ref b, .int 0 0, .int es.size 0, .int ep 0, .none, .none] }).objs.size = h2.objs.size + 1 := Heap.size_push _ _
  have hbI : b ≠ h2.objs.size := Nat.ne_of_lt (Heap.lt_size hb)
  have hSI : S ≠ h2.objs.size := Nat.ne_of_lt (Heap.lt_size hS₂)
  have offI : ∀ a o, a ≠ S → s.heap.get? a = some o → a ≠ h2.objs.size := fun a o h e => Nat.ne_of_lt (Heap.lt_size (up a o h e))
  have key : ∀ (h : Heap) (c tk : Nat), (∀ a o, a ≠ S → (h2.push { cls := .type "dict_itemiterator", data := .fields #[.none, .bool false, .ref b, .int 0 0, .int es.size 0, .int ep 0, .none, .none] }).get? a = some o → h.get? a = some o) → h.get? S = some (listOf #[] c) →
      codeAny (model prog w) A.in1 (.builtin "list.extend.loop" ⟨[.ref S, .ref h2.objs.size, .none], []⟩) (wants (fun r s₂ => r = .none ∧ Q (.ref S) s₂) E) { s with heap := h, toks := tk } := by
    intro h c tk hk hS4
    have hI4 := hk _ _ hSI.symm hI
    refine bk_loop (A := A.in1) (s := s) hh hSI hbS hbI hd hn .none es.toList 0 h tk c [] rfl rfl (.first _ _ hI4) (hk _ _ hbS (up3 _ _ hb)) hS4 fun h' tk' c' ts hk' hS' hT => ?_
    refine ⟨rfl, hQ h' tk' c' ts (fun a o e => ?_) hS' (hT.low ?_)⟩
    · have h1 := old a o e
      exact hk' a o h1 (offI a o h1 e) (hk a o h1 (up3 a o (up a o h1 e)))
    · rw [← z2]; exact Nat.le_of_lt (Heap.lt_size hI4)
  clear hI hQ offI old z3 up
  have hS₃ := up3 _ _ hS₂
  refine wpAny_bind (wpAny_holding (kdx_hint ⟨_, up3 _ _ hv, rfl⟩ ?_))
  generalize h2.push { cls := .type "dict_itemiterator", data := .fields #[.none, .bool false, .ref b, .int 0 0, .int es.size 0, .int ep 0, .none, .none] } = h3 at *
  refine wpAny_ite_split (fun _ => ?_) (fun _ => wpAny_pure ⟨plainId_quiet PySem.F.plain_extend_loop _, key _ _ _ (fun a o _ e => e) hS₃⟩)
  refine wpAny_bind (wpAny_rule ?_)
  refine wpAny_bind ?_
  show wpAny _ _ (updateSeq S (·.push .none) >>= fun _ => updateSeq S (·.pop)) _ _ _
  refine wpAny_bind (wpAny_updateSeq hS₃ rfl ?_)
  have hS₄ := Heap.get?_update_self (Obj.mapSeq (·.push Value.none)) hS₃ rfl
  refine wpAny_updateSeq (hz := by seq_fits) hS₄ rfl ?_
  have hS₅ := Heap.get?_update_self (Obj.mapSeq (·.pop)) hS₄ rfl
  refine wpAny_pure ⟨plainId_quiet PySem.F.plain_extend_loop _, key _ _ _ (fun a o hb e => ?_) hS₅⟩
  exact (Heap.get?_update_other _ _ (Ne.symm hb)).trans ((Heap.get?_update_other _ _ (Ne.symm hb)).trans e)
end
end
section
open PySem PySem.W PySem.Calls
open PyProof.Rows hiding wpAt wpAt_mono wpAt_bind wpAt_stack strKind
open PySem.W.X (Mem)
set_option Elab.async false
set_option maxRecDepth 100000
set_option maxHeartbeats 2000000
set_option pp.deepTerms false
set_option pp.maxSteps 3000
theorem tups_rows {w : World} {h₀ h' : Heap} {L : Addr} {lo : Nat} (new : ∀ a : Nat, lo ≤ a → a ≠ L ∧ h₀.get? a = none) : ∀ (es : List EntC) (ts : List Addr), Tups h' lo ((es.map EntC.e).map (entOf w)) ts → (∀ x ∈ es, StrsAre x.vs x.ws) →
    ∃ nw, News h₀ L h' nw ∧ ∀ o, (∀ p ∈ nw, p ∈ o) → (∀ x ∈ es, (x.l, W.listOf x.vs.toArray x.cap) ∈ o) → TRowsAre o (ts.map Value.ref) (rows es)
  | [], _, .nil _, _ => ⟨[], (fun p hp => nomatch hp), fun _ _ _ => .nil⟩
  | x :: es, _, .cons (t := t) a b c, hx => by
    obtain ⟨nw, N, f⟩ := tups_rows new es _ c fun y hy => hx y (.tail _ hy)
    refine ⟨(t, { cls := .type "tuple", data := .seq #[.str x.n x.t, .ref x.l] }) :: nw, fun p hp => ?_, fun o ho hl => ?_⟩
    · rcases List.mem_cons.mp hp with rfl | hp
      · exact ⟨b, new _ a⟩
      · exact N p hp
    · exact .cons ⟨t, x.t, x.l, 0, rfl, ho _ (.head _), x.l, x.vs, x.cap, rfl, hl x (.head _), hx x (.head _)⟩ (f o (fun p hp => ho p (.tail _ hp)) fun y hy => hl y (.tail _ hy))
theorem book_list {w : World} {A : Around} {Q E : Value → Shared → Prop} {s : Shared} {h₀ : Heap} {L : Addr} {m : Str → Option Value} {news other : List (Addr × Obj)} {b d v : Addr} {ep : Nat} {es : List EntC} (hh : A.handled = none) (_hdp : A.depth ≤ 800) (_hun : A.units ≤ 8000)
    (F : Fr h₀ L s.heap m) (_X : (hd.heap_1 w.params).In h₀) (N : News h₀ L s.heap news) (S : BookSt w b d ep es other news) (nx : List (Addr × Obj)) (Nx : News h₀ L s.heap nx) (hnx : ∀ p ∈ news, p ∈ nx) (hv : (v, ({ cls := .type "dict_items", data := .fields #[.ref b] } : Obj)) ∈ nx) (h3 : es.length ≤ 3)
    (hq : ∀ D h' tk' nw, Fr h₀ L h' m → News h₀ L h' (nw ++ nx) → TabIn (nw ++ nx) (.ref D) (rows es) → Q (.ref D) { s with heap := h', toks := tk' }) :
    wpAny (model PySem.Challenge.rw_in0186_01.row.prog w) A (call (.type "list") [.ref v]) Q E s := by
  have new : ∀ a : Nat, s.heap.objs.size ≤ a → a ≠ L ∧ h₀.get? a = none := fun a ha =>
    ⟨(Nat.ne_of_lt (Nat.lt_of_lt_of_le F.ns.lt ha)).symm, Heap.get?_none_of_le (Nat.le_trans F.above (Nat.le_of_lt (Nat.lt_of_lt_of_le F.ns.lt ha)))⟩
  refine bk_call hh (Nx _ hv).1 (N _ S.book).1 rfl ?_ fun h' tk c ts hk hS hT => ?_
  · rw [List.size_toArray, List.length_map, List.length_map]
    exact Nat.le_trans h3 (by rw [sizeLine_eq]; omega)
  obtain ⟨nw, Nw, f⟩ := tups_rows new es ts (hT.low (Nat.le_succ _)) S.txt
  refine hq _ h' tk ((_, W.listOf (ts.map Value.ref).toArray c) :: nw) (F.keeps hk) (fun p hp => ?_) ⟨_, _, c, rfl, .head _, f _ (fun p hp => .tail _ (List.mem_append.mpr (.inl hp))) fun x hx => List.mem_append.mpr (.inr (hnx _ (S.list hx)))⟩
  rcases List.mem_append.mp hp with hp | hp
  · rcases List.mem_cons.mp hp with rfl | hp
    · exact ⟨hS, new _ (Nat.le_refl _)⟩
    · exact Nw p hp
  · exact (Nx.grown hk) p hp
end
section
open PySem PySem.W PySem.Calls
open PyProof.Rows hiding wpAt wpAt_mono wpAt_bind wpAt_stack strKind
open PySem.W.X (Mem)
set_option Elab.async false
set_option maxRecDepth 100000
set_option maxHeartbeats 2000000
set_option pp.deepTerms false
set_option pp.maxSteps 3000
section
variable {ds : List Deed} {D : Deed} {n : Str} {u : Int}
theorem rangeKs_snoc (k : Nat) : rangeKs 0 (k + 1) = rangeKs 0 k ++ [(k : Int)] := by
  unfold rangeKs
  rw [List.range_succ, List.map_append]
  simp
theorem snoc_get {k : Int} (h0 : 0 ≤ k) (h1 : k < (ds.length : Int)) : (ds ++ [D])[k.toNat]? = ds[k.toNat]? := List.getElem?_append_left (by omega)
theorem snoc_last : (ds ++ [D])[((ds.length : Nat) : Int).toNat]? = some D := by simp
theorem dN_snoc {k : Int} (h : k ∈ rangeKs 0 ds.length) : dN (ds ++ [D]) k = dN ds k := by
  have := mem_rangeKs h
  unfold dN; rw [snoc_get (by omega) (by omega)]
theorem dK_snoc {k : Int} (h : k ∈ rangeKs 0 ds.length) : dK (ds ++ [D]) k = dK ds k := by
  have := mem_rangeKs h
  unfold dK; rw [snoc_get (by omega) (by omega)]
theorem dV_snoc {k : Int} (h : k ∈ rangeKs 0 ds.length) : dV (ds ++ [D]) k = dV ds k := by
  have := mem_rangeKs h
  unfold dV; rw [snoc_get (by omega) (by omega)]
theorem dN_last : dN (ds ++ [D]) (ds.length : Int) = D.n := dN_of snoc_last
theorem dK_last : dK (ds ++ [D]) (ds.length : Int) = D.k := dK_of snoc_last
theorem dV_last : dV (ds ++ [D]) (ds.length : Int) = D.v := dV_of snoc_last
theorem since0_sub {k : Int} (h : k ∈ since0S ds n) : k ∈ rangeKs 0 ds.length := (List.mem_filter.mp h).1
theorem since_sub {k : Int} (h : k ∈ sinceS ds n) : k ∈ rangeKs 0 ds.length := since0_sub (List.mem_filter.mp h).1
theorem mak_sub {k : Int} (h : k ∈ makS ds n u) : k ∈ rangeKs 0 ds.length := since_sub (List.mem_filter.mp h).1
theorem outs_sub {k : Int} (h : k ∈ outsS ds n) : k ∈ rangeKs 0 ds.length := since0_sub (List.mem_filter.mp h).1
theorem since0_snoc : since0S (ds ++ [D]) n = since0S ds n ++ (if D.n = n then [(ds.length : Int)] else []) := by
  unfold since0S
  rw [List.length_append, List.length_singleton, rangeKs_snoc, List.filter_append]
  congr 1
  · exact List.filter_congr fun k hk => by rw [dN_snoc hk]
  · rw [List.filter_cons, List.filter_nil, dN_last]
    by_cases c : D.n = n <;> simp [c]
theorem outs_snoc : outsS (ds ++ [D]) n = outsS ds n ++ (if D.n = n ∧ D.k = 5 then [(ds.length : Int)] else []) := by
  unfold outsS
  rw [since0_snoc, List.filter_append]
  congr 1
  · exact List.filter_congr fun k hk => by rw [dK_snoc (since0_sub hk)]
  · by_cases c : D.n = n
    · rw [if_pos c, List.filter_cons, List.filter_nil, dK_last]
      by_cases c2 : D.k = 5 <;> simp [c, c2]
    · rw [if_neg c, if_neg (fun q => c q.1)]; rfl
theorem since_other (h : D.n ≠ n) : sinceS (ds ++ [D]) n = sinceS ds n := by
  unfold sinceS
  rw [since0_snoc, outs_snoc, if_neg h, if_neg (fun q => h q.1), List.append_nil, List.append_nil]
theorem since_out (h : D.n = n) (h5 : D.k = 5) : sinceS (ds ++ [D]) n = [] := by
  unfold sinceS
  rw [since0_snoc, outs_snoc, if_pos h, if_pos ⟨h, h5⟩, List.filter_eq_nil_iff]
  intro k hk hall
  have := List.all_eq_true.mp hall (ds.length : Int) (.tail _ (List.mem_append.mpr (.inr (.head _))))
  have h1 := of_decide_eq_true this
  rcases List.mem_append.mp hk with hk | hk
  · have := mem_rangeKs (since0_sub hk); omega
  · rw [List.mem_singleton.mp hk] at h1; omega
theorem since_add (h : D.n = n) (h5 : D.k ≠ 5) : sinceS (ds ++ [D]) n = sinceS ds n ++ [(ds.length : Int)] := by
  unfold sinceS
  rw [since0_snoc, outs_snoc, if_pos h, if_neg (fun q => h5 q.2), List.append_nil, List.filter_append]
  congr 1
  rw [List.filter_cons, List.filter_nil, if_pos]
  rw [List.all_eq_true]
  intro a ha
  refine decide_eq_true ?_
  rcases List.mem_cons.mp ha with rfl | ha
  · omega
  · have := mem_rangeKs (outs_sub ha); omega
theorem mak_other (h : D.n ≠ n) : makS (ds ++ [D]) n u = makS ds n u := by
  unfold makS
  rw [since_other h]
  exact List.filter_congr fun k hk => by rw [dK_snoc (since_sub hk)]
theorem mak_add (h : D.n = n) (h5 : D.k ≠ 5) : makS (ds ++ [D]) n u = makS ds n u ++ (if (ds.length : Int) < u ∨ D.k = 4 then [(ds.length : Int)] else []) := by
  unfold makS
  rw [since_add h h5, List.filter_append]
  congr 1
  · exact List.filter_congr fun k hk => by rw [dK_snoc (since_sub hk)]
  · rw [List.filter_cons, List.filter_nil, dK_last]
    by_cases c : (ds.length : Int) < u <;> by_cases c2 : D.k = 4 <;> simp [c, c2]
theorem under_other (h : D.n ≠ n) : underS (ds ++ [D]) n u = underS ds n u := by
  unfold underS
  rw [mak_other h]
  cases e : makS ds n u with
  | nil => rfl
  | cons k0 r =>
    dsimp only
    rw [since_other h]
    congr 3
    rw [List.map_congr_left (g := dV ds) fun k hk => dV_snoc (since_sub (List.mem_filter.mp hk).1)]
    congr 1
    exact List.filter_congr fun k hk => by rw [dK_snoc (since_sub hk)]
theorem under_out' (h : D.n = n) (h5 : D.k = 5) : underS (ds ++ [D]) n u = [] := by
  unfold underS makS
  rw [since_out h h5]; rfl
theorem vals_snoc (k0 : Int) (hk : k0 ≤ (ds.length : Int)) (h : D.n = n) (h5 : D.k ≠ 5) :
    ((sinceS (ds ++ [D]) n).filter fun k => decide (k0 ≤ k) && decide (dK (ds ++ [D]) k ≠ 3)).map (dV (ds ++ [D])) =
      ((sinceS ds n).filter fun k => decide (k0 ≤ k) && decide (dK ds k ≠ 3)).map (dV ds) ++ (if D.k = 3 then [] else [D.v]) := by
  rw [since_add h h5, List.filter_append, List.map_append]
  congr 1
  · rw [List.map_congr_left (g := dV ds) fun k hk => dV_snoc (since_sub (List.mem_filter.mp hk).1)]
    congr 1
    exact List.filter_congr fun k hk => by rw [dK_snoc (since_sub hk)]
  · rw [List.filter_cons, List.filter_nil, dK_last]
    by_cases c : D.k = 3
    · simp [c]
    · simp [c, hk, dV_last]
theorem under_has {k0 : Int} {vs : List Str} (h : D.n = n) (h5 : D.k ≠ 5) (e : underS ds n u = [(k0, n, vs)]) : underS (ds ++ [D]) n u = [(k0, n, vs ++ (if D.k = 3 then [] else [D.v]))] := by
  unfold underS at e ⊢
  rw [mak_add h h5]
  cases em : makS ds n u with
  | nil => rw [em] at e; cases e
  | cons k1 r =>
    rw [em] at e
    have e1 := List.cons.inj e
    have e2 := Prod.mk.inj e1.1
    have e3 := Prod.mk.inj e2.2
    rw [List.cons_append]
    dsimp only
    have hk := mem_rangeKs (mak_sub (u := u) (n := n) (ds := ds) (k := k1) (by rw [em]; exact .head _))
    rw [vals_snoc k1 (by omega) h h5, ← e2.1, ← e3.2]
theorem under_new (h : D.n = n) (h5 : D.k ≠ 5) (hc : (ds.length : Int) < u ∨ D.k = 4) (e : underS ds n u = []) : underS (ds ++ [D]) n u = [((ds.length : Int), n, if D.k = 3 then [] else [D.v])] := by
  unfold underS at e ⊢
  rw [mak_add h h5]
  cases em : makS ds n u with
  | cons k1 r => rw [em] at e; cases e
  | nil =>
    rw [if_pos hc]
    show [((ds.length : Int), n, _)] = _
    rw [vals_snoc _ (Int.le_refl _) h h5]
    congr 3
    have : ((sinceS ds n).filter fun k => decide ((ds.length : Int) ≤ k) && decide (dK ds k ≠ 3)) = [] := by
      rw [List.filter_eq_nil_iff]
      intro k hk q
      have := mem_rangeKs (since_sub hk)
      simp at q
      omega
    rw [this]; rfl
theorem under_none (h : D.n = n) (h5 : D.k ≠ 5) (hc : ¬ ((ds.length : Int) < u ∨ D.k = 4)) (e : underS ds n u = []) : underS (ds ++ [D]) n u = [] := by
  unfold underS at e ⊢
  rw [mak_add h h5]
  cases em : makS ds n u with
  | cons k1 r => rw [em] at e; cases e
  | nil => rw [if_neg hc]; rfl
end

structure Inv (ds : List Deed) (u : Int) (tab : Tab) (rs : List Row) : Prop where
  pw : rs.Pairwise fun a b => a.1 < b.1
  sd : ∀ r ∈ rs, underS ds r.2.1 u = [r]
  cm : ∀ n r, underS ds n u = [r] → r ∈ rs
  tb : tab = rs.map fun r => (r.2.1, r.2.2)
section
variable {ds : List Deed} {D : Deed} {n : Str} {u : Int} {tab : Tab} {rs : List Row}
theorem under_name {r : Row} (e : underS ds n u = [r]) : r.2.1 = n ∧ 0 ≤ r.1 ∧ r.1 < (ds.length : Int) ∧ dN ds r.1 = n := by
  rcases under_cases ds n u with h | ⟨k0, vs, h, h1, h2, h3⟩
  · rw [h] at e; cases e
  · rw [h] at e; cases e; exact ⟨rfl, h1, h2, h3⟩
theorem Inv.has (I : Inv ds u tab rs) : hasN tab n ↔ ∃ r, underS ds n u = [r] ∧ r ∈ rs := by
  constructor
  · rintro ⟨x, hx, e⟩
    rw [I.tb] at hx
    obtain ⟨r, hr, rfl⟩ := List.mem_map.mp hx
    exact ⟨r, by rw [← I.sd r hr]; exact congrArg (fun n => underS ds n u) e.symm, hr⟩
  · rintro ⟨r, e, hr⟩
    exact ⟨_, by rw [I.tb]; exact List.mem_map.mpr ⟨r, hr, rfl⟩, (under_name e).1⟩
theorem Inv.hasnt (I : Inv ds u tab rs) (h : ¬ hasN tab n) : underS ds n u = [] := by
  rcases under_cases ds n u with e | ⟨k0, vs, e, _⟩
  · exact e
  · exact absurd (I.has.mpr ⟨_, e, I.cm n _ e⟩) h
def underV (rows : List Row) : List Str := match rows with
  | [] => []
  | r :: _ => r.2.2
theorem Inv.look (I : Inv ds u tab rs) : lookD tab n = underV (underS ds n u) := by
  unfold lookD
  by_cases h : hasN tab n
  · obtain ⟨r, e, hr⟩ := I.has.mp h
    have key : ∀ x ∈ tab, x.1 = n → x.2 = r.2.2 := by
      intro x hx ex
      rw [I.tb] at hx
      obtain ⟨r', hr', rfl⟩ := List.mem_map.mp hx
      have := I.sd r' hr'
      dsimp only at ex
      rw [ex, e] at this
      rw [(List.cons.inj this).1]
    obtain ⟨x, hx, ex⟩ := h
    cases ef : tab.find? (fun r => decide (r.1 = n)) with
    | none => exact absurd (decide_eq_true ex) (by simpa using List.find?_eq_none.mp ef x hx)
    | some y =>
      have h1 := List.mem_of_find?_eq_some ef
      have h2 := List.find?_some ef
      rw [e]
      exact key y h1 (of_decide_eq_true h2)
  · rw [I.hasnt h, List.find?_eq_none.mpr]
    · rfl
    · intro x hx q
      exact h ⟨x, hx, of_decide_eq_true q⟩
theorem Inv.ne (I : Inv ds u tab rs) {r r' : Row} (h : r ∈ rs) (h' : r' ∈ rs) (e : r.2.1 = r'.2.1) : r = r' := by
  have a := I.sd r h
  have b := I.sd r' h'
  rw [e, b] at a
  exact (List.cons.inj a).1.symm
theorem Inv.step (I : Inv ds u tab rs) (hk : 0 ≤ D.k) (hk6 : D.k < 6) : ∃ rs', Inv (ds ++ [D]) u (act (decide (u ≤ (ds.length : Int))) tab D) rs' := by
  have lt : ∀ r ∈ rs, r.1 < (ds.length : Int) := fun r hr => (under_name (I.sd r hr)).2.2.1
  have addc : ∀ v, hasN tab D.n → D.k ≠ 5 → (v = if D.k = 3 then [] else [D.v]) → ∃ rs', Inv (ds ++ [D]) u (tab.map fun r => if r.1 = D.n then (r.1, r.2 ++ v) else r) rs' := by
    intro v hh h5 hv
    refine ⟨rs.map fun r => if r.2.1 = D.n then (r.1, r.2.1, r.2.2 ++ v) else r, ⟨?_, ?_, ?_, ?_⟩⟩
    · rw [List.pairwise_map]
      refine I.pw.imp fun {a b} hab => ?_
      split <;> split <;> exact hab
    · intro r hr
      obtain ⟨r0, hr0, rfl⟩ := List.mem_map.mp hr
      have e0 := I.sd r0 hr0
      by_cases c : r0.2.1 = D.n
      · rw [if_pos c]
        dsimp only
        rw [hv]
        exact under_has c.symm h5 e0
      · rw [if_neg c]
        rw [under_other (fun q => c q.symm)]; exact e0
    · intro n r e
      by_cases c : D.n = n
      · obtain ⟨r0, e0, hr0⟩ := I.has.mp hh
        rw [c] at e0
        have e1 := under_has (vs := r0.2.2) (k0 := r0.1) c h5 (by rw [e0]; rw [← (under_name e0).1])
        rw [e] at e1
        refine List.mem_map.mpr ⟨r0, hr0, ?_⟩
        rw [if_pos (by rw [(under_name e0).1, c]), (List.cons.inj e1).1, hv, (under_name e0).1]
      · rw [under_other c] at e
        refine List.mem_map.mpr ⟨r, I.cm n r e, ?_⟩
        rw [if_neg]
        rw [(under_name e).1]; exact fun q => c q.symm
    · rw [I.tb, List.map_map, List.map_map]
      refine List.map_congr_left fun r _ => ?_
      by_cases c : r.2.1 = D.n <;> simp [c]
  have newc : ∀ v, ¬ hasN tab D.n → D.k ≠ 5 → ((ds.length : Int) < u ∨ D.k = 4) → (v = if D.k = 3 then [] else [D.v]) → ∃ rs', Inv (ds ++ [D]) u (tab ++ [(D.n, v)]) rs' := by
    intro v hh h5 hc hv
    have e0 := I.hasnt hh
    have e1 := under_new rfl h5 hc e0
    refine ⟨rs ++ [((ds.length : Int), D.n, v)], ⟨?_, ?_, ?_, ?_⟩⟩
    · rw [List.pairwise_append]
      refine ⟨I.pw, List.pairwise_singleton _ _, fun a ha b hb => ?_⟩
      rw [List.mem_singleton.mp hb]
      exact lt a ha
    · intro r hr
      rcases List.mem_append.mp hr with hr | hr
      · rw [under_other, I.sd r hr]
        intro q
        have := I.sd r hr
        rw [← q, e0] at this
        cases this
      · rw [List.mem_singleton.mp hr, hv]; exact e1
    · intro n r e
      by_cases c : D.n = n
      · rw [← c, e1] at e
        rw [← (List.cons.inj e).1, hv]
        exact List.mem_append.mpr (.inr (.head _))
      · rw [under_other c] at e
        exact List.mem_append.mpr (.inl (I.cm n r e))
    · rw [I.tb, List.map_append]; rfl
  have same : ¬ hasN tab D.n → D.k ≠ 5 → ¬ ((ds.length : Int) < u ∨ D.k = 4) → ∃ rs', Inv (ds ++ [D]) u tab rs' := by
    intro hh h5 hc
    have e0 := I.hasnt hh
    have e1 := under_none rfl h5 hc e0
    refine ⟨rs, ⟨I.pw, ?_, ?_, I.tb⟩⟩
    · intro r hr
      rw [under_other, I.sd r hr]
      intro q
      have := I.sd r hr
      rw [← q, e0] at this
      cases this
    · intro n r e
      by_cases c : D.n = n
      · rw [← c, e1] at e; cases e
      · rw [under_other c] at e
        exact I.cm n r e
  unfold act
  by_cases k3 : D.k < 3
  · rw [if_pos k3]
    have hv : [D.v] = if D.k = 3 then [] else [D.v] := by rw [if_neg (by omega)]
    by_cases hh : hasN tab D.n
    · rw [if_pos hh]; exact addc _ hh (by omega) hv
    · rw [if_neg hh]
      by_cases hf : u ≤ (ds.length : Int)
      · rw [if_pos (decide_eq_true hf)]; exact same hh (by omega) (by omega)
      · rw [if_neg (by simpa using hf)]; exact newc _ hh (by omega) (by omega) hv
  · rw [if_neg k3]
    by_cases k3' : D.k = 3
    · rw [if_pos k3']
      have hv : [] = if D.k = 3 then [] else [D.v] := by rw [if_pos k3']
      by_cases hh : hasN tab D.n
      · rw [if_pos hh]
        have := addc _ hh (by omega) hv
        rwa [show (tab.map fun r => if r.1 = D.n then (r.1, r.2 ++ ([] : List Str)) else r) = tab from by
          conv => rhs; rw [← List.map_id tab]
          refine List.map_congr_left fun r _ => ?_
          split <;> simp] at this
      · rw [if_neg hh]
        by_cases hf : u ≤ (ds.length : Int)
        · rw [if_pos (decide_eq_true hf)]; exact same hh (by omega) (by omega)
        · rw [if_neg (by simpa using hf)]; exact newc _ hh (by omega) (by omega) hv
    · rw [if_neg k3']
      by_cases k4 : D.k = 4
      · rw [if_pos k4]
        have hv : [D.v] = if D.k = 3 then [] else [D.v] := by rw [if_neg k3']
        by_cases hh : hasN tab D.n
        · rw [if_pos hh]; exact addc _ hh (by omega) hv
        · rw [if_neg hh]; exact newc _ hh (by omega) (.inr k4) hv
      · rw [if_neg k4]
        have h5 : D.k = 5 := by omega
        refine ⟨rs.filter fun r => decide (r.2.1 ≠ D.n), ⟨I.pw.filter _, ?_, ?_, ?_⟩⟩
        · intro r hr
          obtain ⟨hr, hd⟩ := List.mem_filter.mp hr
          rw [under_other (fun q => of_decide_eq_true hd q.symm)]
          exact I.sd r hr
        · intro n r e
          by_cases c : D.n = n
          · rw [under_out' c h5] at e; cases e
          · rw [under_other c] at e
            refine List.mem_filter.mpr ⟨I.cm n r e, decide_eq_true ?_⟩
            rw [(under_name e).1]; exact fun q => c q.symm
        · rw [I.tb, List.filter_map]; rfl
end
theorem inv_run {ds : List Deed} {u : Int} (hk : ∀ D ∈ ds, 0 ≤ D.k ∧ D.k < 6) : ∀ i, i ≤ ds.length → ∃ rs, Inv (ds.take i) u (runTo ds u i).1 rs := by
  intro i
  induction i with
  | zero =>
    intro _
    refine ⟨[], ⟨.nil, (fun r hr => nomatch hr), ?_, rfl⟩⟩
    intro n r e
    have := under_name e
    simp at this
    omega
  | succ i ih =>
    intro hi
    obtain ⟨rs, I⟩ := ih (by omega)
    have hg : ds[i]? = some ds[i] := List.getElem?_eq_getElem (by omega)
    obtain ⟨rs', I'⟩ := I.step (D := ds[i]) (hk _ (List.getElem_mem _)).1 (hk _ (List.getElem_mem _)).2
    refine ⟨rs', ?_⟩
    have hl : (ds.take i).length = i := by rw [List.length_take]; omega
    rw [hl] at I'
    have e1 : runTo ds u (i + 1) = (act (decide (u ≤ (i : Int))) (runTo ds u i).1 ds[i], if ds[i].k = 3 then (runTo ds u i).2 ++ [lookD (runTo ds u i).1 ds[i].n] else (runTo ds u i).2) := by
      show (match ds[i]? with | some D => _ | none => _) = _
      rw [hg]
    rw [List.take_add_one, hg, e1]
    exact I'
noncomputable def loneS (ds : List Deed) (u : Int) : Nat → List (List Str)
  | 0 => []
  | i + 1 => match ds[i]? with
    | some D => if D.k = 3 then loneS ds u i ++ [underV (underS (ds.take i) D.n u)] else loneS ds u i
    | none => loneS ds u i
theorem lone_run {ds : List Deed} {u : Int} (hk : ∀ D ∈ ds, 0 ≤ D.k ∧ D.k < 6) : ∀ i, i ≤ ds.length → (runTo ds u i).2 = loneS ds u i := by
  intro i
  induction i with
  | zero => intro _; rfl
  | succ i ih =>
    intro hi
    have hg : ds[i]? = some ds[i] := List.getElem?_eq_getElem (by omega)
    show (match ds[i]? with | some D => (act (decide (u ≤ (i : Int))) (runTo ds u i).1 D, if D.k = 3 then (runTo ds u i).2 ++ [lookD (runTo ds u i).1 D.n] else (runTo ds u i).2) | none => runTo ds u i).2 = (match ds[i]? with | some D => if D.k = 3 then loneS ds u i ++ [underV (underS (ds.take i) D.n u)] else loneS ds u i | none => loneS ds u i)
    rw [hg]
    dsimp only
    obtain ⟨rs, I⟩ := inv_run (u := u) hk i (by omega)
    rw [I.look, ih (by omega)]
theorem table_run {ds : List Deed} {u : Int} (hk : ∀ D ∈ ds, 0 ≤ D.k ∧ D.k < 6) (hn : ∀ D ∈ ds, D.n ∈ namesL) {tab : Tab} (ht : TableS ds u tab) : (runTo ds u ds.length).1 = tab := by
  obtain ⟨rs, I⟩ := inv_run (u := u) hk ds.length (Nat.le_refl _)
  rw [List.take_length] at I
  obtain ⟨rs', ⟨hp, hs⟩, rfl⟩ := ht
  rw [I.tb]
  congr 1
  have nd : ∀ {l : List Row}, l.Pairwise (fun a b => a.1 < b.1) → l.Nodup := fun h => h.imp fun {a b} hab e => by rw [e] at hab; exact Int.lt_irrefl _ hab
  refine List.Perm.eq_of_pairwise (le := fun a b : Row => a.1 < b.1) (fun a b _ _ h1 h2 => absurd (Int.lt_trans h1 h2) (Int.lt_irrefl _)) I.pw hs ?_
  refine ((List.perm_ext_iff_of_nodup (nd I.pw) (nd hs)).mpr fun r => ?_)
  rw [hp.mem_iff]
  unfold rowsS
  rw [List.mem_append, List.mem_append]
  have one : ∀ {n : Str}, r ∈ underS ds n u → underS ds n u = [r] := by
    intro n h
    rcases under_cases ds n u with e | ⟨k0, vs, e, _⟩
    · rw [e] at h; cases h
    · rw [e] at h ⊢; rw [List.mem_singleton.mp h]
  constructor
  · intro h
    have e := I.sd r h
    obtain ⟨_, h0, h1, h2⟩ := under_name e
    have hm : r.2.1 ∈ namesL := by
      have hl : r.1.toNat < ds.length := by omega
      have := hn _ (List.getElem_mem hl)
      rwa [← dN_of (List.getElem?_eq_getElem hl), h2] at this
    have hr : r ∈ underS ds r.2.1 u := by rw [e]; exact .head _
    unfold namesL at hm
    simp only [List.mem_cons, List.not_mem_nil, or_false] at hm
    rcases hm with hm | hm | hm
    · rw [hm] at hr; exact .inl (.inl hr)
    · rw [hm] at hr; exact .inl (.inr hr)
    · rw [hm] at hr; exact .inr hr
  · rintro ((h | h) | h) <;> exact I.cm _ r (one h)
end
section
open PySem PySem.W PySem.Calls
open PyProof.Rows hiding wpAt wpAt_mono wpAt_bind wpAt_stack strKind
open PySem.W.X (Mem)
set_option Elab.async false
set_option maxRecDepth 100000
set_option maxHeartbeats 2000000
set_option pp.deepTerms false
set_option pp.maxSteps 3000
open LCg
section
variable {prog : Program} {w : World} {A : Around} {E : Value → Shared → Prop} {s : Shared} {h₀ : Heap} {L : Addr} {m : Str → Option Value} {env : Env}
theorem list3A {elt iter : Expr} {x1 x2 x3 y : Str} {p1 p2 p3 tp py : Pos} {tk0} {scope : Scope} {cl : List (Str × Addr)} {pos spos : Pos} {Q : Flow → Shared → Prop}
    (_F₀ : Fr h₀ L s.heap m) (hLe : env.locals = L) (hsw : swapsWith (.ListComp elt [⟨.Tuple [.Name x1 p1, .Name x2 p2, .Name x3 p3] tk0 tp, iter, [], 0⟩] scope pos) (some (.Name y py)) spos.line env = pure true)
    (hy : env.kindOf y = some .local) (hp : (env.scope.kind == .class || (env.scope.kind == .module && env.locals != env.globals)) = false) (hclos : closureFor scope env = pure cl) (hcell : ∀ y ∈ scope.names, y.2 ≠ .cell) (hkind : scope.kind = .function) (hnames : ∀ y ∈ scope.names, y.2 = .local → scope.names.lookup y.1 = some .local)
    (hx1 : scope.names.lookup x1 = some .local) (hx2 : scope.names.lookup x2 = some .local) (hx3 : scope.names.lookup x3 = some .local) (h12 : x1 ≠ x2) (h13 : x1 ≠ x3) (h23 : x2 ≠ x3)
    (h : wpAny (model prog w) A (eval iter env) (fun xv s₁ => ∃ ax its k nw J, xv = .ref ax ∧ A.handled = none ∧ Fr h₀ L s₁.heap m ∧ News h₀ L s₁.heap nw ∧ (ax, ({ cls := .type "list", data := .seq its k } : Obj)) ∈ nw ∧ its.size ≤ sizeLine ∧ J 0 [] nw ∧
      (∀ g, Turns3 prog w A h₀ L m env elt (x1, x2, x3) scope cl { s₁ with heap := g } (SrcAt h₀ ax its) (fun i v => its[i]? = some v) J its.size) ∧
      ∀ g ys nw', J its.size ys nw' → FinA h₀ L m { s₁ with heap := g } y Q ys nw') E s)
    (hs : ∀ x, foldedSetIterable iter env x = pure x := by intro _; rfl) :
    wpAny (model prog w) A (exec (.Assign [.Name y py] (.ListComp elt [⟨.Tuple [.Name x1 p1, .Name x2 p2, .Name x3 p3] tk0 tp, iter, [], 0⟩] scope pos) spos) env) Q E s := by
  subst hLe
  rw [exec_Assign_Name_used _ _ _ _ hsw]
  refine wpAny_bind (wpAny_standAt (wpAny_bind ?_))
  show wpAny _ A (do let _ ← comprehension (.ListComp elt [⟨.Tuple [.Name x1 p1, .Name x2 p2, .Name x3 p3] tk0 tp, iter, [], 0⟩] scope pos) scope env _ (newList []) false (eval iter env) (some (assign (.Name y py) env))) _ _ s
  refine wpAny_bind (wpAny_mono (wpAny_comprehension_free (use := some (assign (.Name y py) env)) (Q := fun _ s' => Q .next s') rfl hs hclos hkind hnames
    (wpAny_mono h (fun xv s₁ h₁ => ?_) fun _ _ e => e)) (fun _ s' hq => wpAny_pure (wpAny_pure hq)) fun _ _ e => e)
  obtain ⟨ax, its, kk, nw, J, rfl, hh, F, N, hax, hsz, hJ, hT, hfin⟩ := h₁
  refine cp_pre (post := fun acc C => compPost (model prog w) A E (some (assign (.Name y py) env)) (fun _ s' => Q .next s') acc C) hh F N hax hJ hcell hkind fun h tk I C D a c0 => ?_
  refine LCp.codeAny_compLoop_pair (CpI s₁ h₀ env.locals m its ax I C D J) ?_ _ c0
  rintro _ _ @⟨h, tk, i, ys, nw', m', hi, hyl, c⟩
  refine cp_item hh a hi c (fun v h₂ tk₂ hlt hv c => ?_) fun h₂ tk₂ e j F2 n2 N2 => ?_
  · exact cp_turn3 hkind hx1 hx2 hx3 h12 h13 h23 hh hsz hT a hyl hlt hv c
  · subst e
    show wpAny _ A (assign (.Name y py) env (.ref D)) _ _ _
    refine wpAny_assign_Name (wpAny_storeName_local hy F2.ns (fun h₃ hn₃ hs₃ => ?_) hp)
    refine ⟨m', n2.sameBut hs₃ a.cl, fun h'' hs'' => hfin s₁.heap ys nw' j D h'' _ ((F2.set hn₃ hs₃).change hs'' a.cl a.c0) (fun p hp => ?_) c.off.one⟩
    have z := N2.set hs₃ p hp
    exact ⟨hs''.extBut _ _ (c.offD a p hp) z.1, z.2⟩
end
end
section
open PySem PySem.W PySem.Calls
open PyProof.Rows hiding wpAt wpAt_mono wpAt_bind wpAt_stack strKind
open PySem.W.X (Mem)
set_option Elab.async false
set_option maxRecDepth 100000
set_option maxHeartbeats 2000000
set_option pp.deepTerms false
set_option pp.maxSteps 3000
open LCg LCt
local macro_rules | `(tactic| k_all) => `(tactic| assumption)
local macro_rules | `(tactic| bits_by_make) => `(tactic| first | assumption | exact List.Mem.head _ | (refine List.Mem.tail _ ?_; bits_by_make))
local macro_rules | `(tactic| walk_at "call builtin:len") => `(tactic| (k_here; (with_reducible show wpAny _ _ (call (Value.builtin "len") [Value.ref _]) _ _ _); (refine' len_list (items := List.toArray _) ?l ?z ?_; (case l => exact News.isL (by k_asm) (by bits_by_make)); (case z => (simp only [List.size_toArray]; omega)))))
local macro_rules | `(tactic| walk_at "subscriptTail") => `(tactic| (k_here; (with_reducible show wpAny _ _ (subscriptTail _ _ (Value.ref _) (Value.int _ _)) _ _ _); (first
  | (refine' item_list (items := List.toArray _) ?l ?a ?b ?c ?_; (case c => assumption); (case l => exact News.isL (by k_asm) (by bits_by_make)); (case a => omega); (case b => omega))
  | (refine' item_tupleT ?t ?a ?b ?c ?d ?_; (case t => exact News.isTup (by k_asm) (by bits_by_make)); (case a => decide); (case b => decide); (case c => rfl); (case d => rfl)))))
local macro_rules | `(tactic| walk_at "subscriptTail Name Constant ref int") => `(tactic| (k_here; (with_reducible show wpAny _ _ (subscriptTail _ _ (Value.ref _) (Value.int _ _)) _ _ _); (first
  | (refine' item_list (items := List.toArray _) ?l ?a ?b ?c ?_; (case c => assumption); (case l => exact News.isL (by k_asm) (by bits_by_make)); (case a => omega); (case b => omega))
  | (refine' item_tupleT ?t ?a ?b ?c ?d ?_; (case t => exact News.isTup (by k_asm) (by bits_by_make)); (case a => decide); (case b => decide); (case c => rfl); (case d => rfl)))))
local macro_rules | `(tactic| walk_at "subscriptTail Name Name ref int") => `(tactic| (k_here; (with_reducible show wpAny _ _ (subscriptTail _ _ (Value.ref _) (Value.int _ _)) _ _ _); (first
  | (refine' item_list (items := List.toArray _) ?l ?a ?b ?c ?_; (case c => assumption); (case l => exact News.isL (by k_asm) (by bits_by_make)); (case a => omega); (case b => omega))
  | (refine' item_tupleT ?t ?a ?b ?c ?d ?_; (case t => exact News.isTup (by k_asm) (by bits_by_make)); (case a => decide); (case b => decide); (case c => rfl); (case d => rfl)))))
local macro_rules | `(tactic| walk_at "subscriptTail Subscript Constant ref int") => `(tactic| (k_here; (with_reducible show wpAny _ _ (subscriptTail _ _ (Value.ref _) (Value.int _ _)) _ _ _); (first
  | (refine' item_list (items := List.toArray _) ?l ?a ?b ?c ?_; (case c => assumption); (case l => exact News.isL (by k_asm) (by bits_by_make)); (case a => omega); (case b => omega))
  | (refine' item_tupleT ?t ?a ?b ?c ?d ?_; (case t => exact News.isTup (by k_asm) (by bits_by_make)); (case a => decide); (case b => decide); (case c => rfl); (case d => rfl)))))
local macro_rules | `(tactic| walk_at "subscriptTail Subscript Name ref int") => `(tactic| (k_here; (with_reducible show wpAny _ _ (subscriptTail _ _ (Value.ref _) (Value.int _ _)) _ _ _); (first
  | (refine' item_list (items := List.toArray _) ?l ?a ?b ?c ?_; (case c => assumption); (case l => exact News.isL (by k_asm) (by bits_by_make)); (case a => omega); (case b => omega))
  | (refine' item_tupleT ?t ?a ?b ?c ?d ?_; (case t => exact News.isTup (by k_asm) (by bits_by_make)); (case a => decide); (case b => decide); (case c => rfl); (case d => rfl)))))
local macro_rules | `(tactic| walk_at "subscriptTail BinOp Constant ref int") => `(tactic| (k_here; (with_reducible show wpAny _ _ (subscriptTail _ _ (Value.ref _) (Value.int _ _)) _ _ _); (first
  | (refine' item_list (items := List.toArray _) ?l ?a ?b ?c ?_; (case c => assumption); (case l => exact News.isL (by k_asm) (by bits_by_make)); (case a => omega); (case b => omega))
  | (refine' item_tupleT ?t ?a ?b ?c ?d ?_; (case t => exact News.isTup (by k_asm) (by bits_by_make)); (case a => decide); (case b => decide); (case c => rfl); (case d => rfl)))))
local macro_rules | `(tactic| walk_at "subscriptTail Name Slice ref ref") => `(tactic| (k_here; (with_reducible show wpAny _ _ (subscriptTail _ (PySem.Expr.Slice none (some _) none _) (Value.ref _) (Value.ref _)) _ _ _); (refine' kmk_slice_lit ?F ?N ?l ?p ?q ?e ?_ ?s ?t ?z; (case F => k_asm); (case N => k_asm); (case l => exact News.isL (by k_asm) (by bits_by_make)); (case p => exact IsPart.none); (case q => exact IsPart.int _ _); (case e => exact pick_upto (by omega)); (case s => with_unfolding_all rfl); (case t => kmk_pure); (case z => (rw [sizeLine_eq, List.size_toArray]; omega))); intro D' h' F' N' l1'))
theorem DeedsAre.take {o : List (Addr × Obj)} {vs : List Value} {ds : List Deed} (y : DeedsAre o vs ds) (i : Nat) : DeedsAre o (vs.take i) (ds.take i) := by
  induction y generalizing i with
  | nil => rw [List.take_nil, List.take_nil]; exact .nil
  | cons a _ ih =>
    cases i with
    | zero => exact .nil
    | succ i => exact .cons a (ih i)
def LoneJ (ds : List Deed) (u : Int) (tu : Tok) (dl sl : Addr) (rest : List (Addr × Obj)) (i : Nat) (m : Str → Option Value) (nx : List (Addr × Obj)) : Prop :=
  ∃ sv sn o2, nx = (sl, listOf (List.toArray sv) sn) :: o2 ∧ (∀ p ∈ o2, p.1 ≠ sl) ∧ (∀ p ∈ rest, p ∈ o2) ∧ TxtsAt o2 sv (loneS ds u i) ∧ sv.length ≤ i ∧
    m (Str.ofString "deeds") = some (.ref dl) ∧ m (Str.ofString "until") = some (.int u tu) ∧ m (Str.ofString "seen") = some (.ref sl)
theorem lone_spec (w : World) (rest : List (Addr × Obj)) (dl : Addr) (ds : List Deed) (u : Int) (tu : Tok) (hD : DeedsIn rest dl ds) (hlen : ds.length ≤ 10) :
    Tell2 w 249 [.ref dl, .int u tu] 100 rest (fun r news' => (∀ p ∈ rest, p ∈ news') ∧ ∃ sl sv sn, r = .ref sl ∧ (sl, listOf (List.toArray sv) sn) ∈ news' ∧ TxtsAt news' sv (loneS ds u ds.length)) := by
  have hD0 := hD
  obtain ⟨dvs, dn, hdl, hda⟩ := hD
  have hdlen := hda.length
  unfold Tell2
  k_fill
  intro mean mg mb dp un gd cn cs a ccd cl outer A₀ base h₀ L m s Q E B F X N T hk hdp hun hret
  refine wpAny_call ?_
  k_dflt (refine' code_def2 (binds := [(Str.ofString "deeds", .ref dl), (Str.ofString "until", .int u tu)]) ?k1 ?k2 ?k3 ?k4 ?k5 ?kA ?kF ?kK ?k6 ?k7 ?k8 ?k9 ?kB ?_ ?c2 ?c3 ?c4 ?c5; (case kA => exact rfl); (case kF => exact rfl); (case kK => first | assumption | exact rfl); (case k1 => k_asm); (case k2 => k_asm); (case k3 => k_asm); (case k4 => k_asm); (case k5 => k_asm); (case k6 => k_is); (case k7 => k_is); (case k8 => ktr_room); (case k9 => first | exact BindsTo.of_eq rfl | exact binds_K (by k_in) rfl (by k_is) rfl rfl rfl); (case c5 => decide); (case kB => exact locs rfl); (case c2 => exact rfl); (case c3 => exact rfl); (case c4 => exact rfl); k_whole; intro g' L' h' hG' FG' F' N' B' X' T'; (try dsimp only); (try k_fold))
  repeat' ((fail_if_success (with_reducible show wpAny _ _ (pyIter (Value.ref _)) _ _ _)); first | (k_unfold; (try dsimp only)) | (k_end; wrow_close) | ((fail_if_success (with_reducible show wpAny _ _ (subscriptTail _ (PySem.Expr.Slice _ _ _ _) _ _) _ _ _)); dsimp only; walk1) | walk1)
  rename IsRange _ _ _ _ _ _ _ _ => hR
  rename Fr g' L' _ _ => FF
  rename News g' L' _ _ => NN
  rename (∀ p ∈ rest, Prod.fst p < _) => lsl
  have hsz : (dvs.toArray.size : Int) = (ds.length : Int) := by rw [List.size_toArray, hdlen]
  rw [hsz] at hR
  have hcases := upto10 _ hlen
  refine loop_range (n := ds.length) (news := _ :: rest) (LoneJ ds u tu dl _ rest) (by rfl) hR ?_ ?_ FF NN ⟨[], 0, rest, rfl, fun p hp => Nat.ne_of_lt (lsl p hp), fun p hp => hp, .nil, Nat.le_refl _, rfl, rfl, rfl⟩ ?_ ?_
  · rcases hcases with e | e | e | e | e | e | e | e | e | e | e <;> rw [e] <;> rfl
  · rcases hcases with e | e | e | e | e | e | e | e | e | e | e <;> rw [e] <;> rfl
  · intro i ti m₁ nx h tk own hi hoff hJ F1 N1
    obtain ⟨sv, sn, o2, rfl, hsl, hrs, hT, hsv, md, mu, ms⟩ := hJ
    have F2 := fr_pin2 F1 ms
    have F3 := fr_pin2 F2 (x := Str.ofString "until") (v := .int u tu) (by rw [if_neg (by decide)]; exact mu)
    have F4 := fr_pin2 F3 (x := Str.ofString "deeds") (by rw [if_neg (by decide), if_neg (by decide)]; exact md)
    clear F1 F2 F3 FF NN N hret
    obtain ⟨sl, esl, esl2⟩ : ∃ x : Addr, m₁ (Str.ofString "seen") = some (.ref x) ∧ Value.ref x = Value.ref x := ⟨_, ms, rfl⟩
    have esl3 := (Value.ref.inj (Option.some.inj (ms.symm.trans esl))).symm
    subst esl3
    replace F4 : Fr g' L' h _ := F4
    replace N1 : News g' L' h ((sl, W.listOf (List.toArray sv) sn) :: (o2 ++ own)) := N1
    obtain ⟨De, ta, t1, t2, t3, t4, tn9, e1, e2, e3⟩ := deed_get hda (k := (i : Int)) (by omega) (by omega)
    have hdl2 : (dl, listOf dvs.toArray dn) ∈ o2 ++ own := List.mem_append.mpr (.inl (hrs _ hdl))
    have e3 := List.mem_append.mpr (.inl (hrs _ e3) : _ ∨ _ ∈ own)
    have e0 : ds[i]? = some De := by simpa using e1
    have lone1 : loneS ds u (i + 1) = if De.k = 3 then loneS ds u i ++ [underV (underS (ds.take i) De.n u)] else loneS ds u i := by
      show (match ds[i]? with | some D => if D.k = 3 then loneS ds u i ++ [underV (underS (ds.take i) D.n u)] else loneS ds u i | none => loneS ds u i) = _
      rw [e0]
    repeat' ((fail_if_success (with_reducible show wpAny _ _ (exec (Stmt.Assign _ (Expr.ListComp _ _ _ _) _) _) _ _ _)); (fail_if_success (with_reducible show InvPostG _ _ _ _ _ _ _ _)); first | (k_unfold; (try dsimp only)) | (k_end; wrow_close) | ((fail_if_success (with_reducible show wpAny _ _ (subscriptTail _ (PySem.Expr.Slice _ _ _ _) _ _) _ _ _)); dsimp only; walk1) | walk1)
    · refine list3A (by k_asm) (by rfl) (by with_unfolding_all rfl) (by rfl) (by rfl) (by with_unfolding_all rfl) (by decide) rfl (by decide) rfl rfl rfl (by decide) (by decide) (by decide) ?_
      repeat' ((fail_if_success (with_reducible show wpAny _ _ (call (Value.ref 239) _) _ _ _)); first | (k_unfold; (try dsimp only)) | (k_end; wrow_close) | ((fail_if_success (with_reducible show wpAny _ _ (subscriptTail _ (PySem.Expr.Slice _ _ _ _) _ _) _ _ _)); dsimp only; walk1) | walk1)
      rename News g' L' _ ((_, W.listOf (List.toArray (List.take _ dvs)) 0) :: _) => N5
      rename (∀ p ∈ (sl, W.listOf (List.toArray sv) sn) :: (o2 ++ own), Prod.fst p < _) => l5
      rename Fr g' L' _ _ => F5
      have hD5 : ∀ x, DeedsAre (x :: o2) (dvs.take ((i : Int)).toNat) (ds.take i) := fun x => (hda.mono fun p hp => .tail _ (hrs p hp)).take i
      refine tell2_aside (hid := (sl, W.listOf (List.toArray sv) sn) :: own) (under_spec w (_ :: o2) _ (ds.take i) De.n u _ _ ⟨_, 0, .head _, hD5 _⟩ (by rw [List.length_take]; omega)) (by k_asm) F5 (by k_asm) ?_ (by k_asm) rfl (by ktr_room) (by ktr_units) ?_ ?_
      · intro p hp
        rcases List.mem_append.mp hp with hp | hp
        · rcases List.mem_cons.mp hp with rfl | hp
          · exact N5 _ (.tail _ (.head _))
          · exact N5 _ (.tail _ (.tail _ (List.mem_append.mpr (.inr hp))))
        · rcases List.mem_cons.mp hp with rfl | hp
          · exact N5 _ (.head _)
          · exact N5 _ (.tail _ (.tail _ (List.mem_append.mpr (.inl hp))))
      · intro p hp q hq
        rcases List.mem_cons.mp hp with rfl | hp
        · rcases List.mem_cons.mp hq with rfl | hq
          · exact Nat.ne_of_lt (l5 _ (.head _))
          · exact Ne.symm (hsl q hq)
        · rcases List.mem_cons.mp hq with rfl | hq
          · exact Nat.ne_of_lt (l5 _ (.tail _ (List.mem_append.mpr (.inr hp))))
          · exact hoff p hp _ (List.mem_map.mpr ⟨q, .tail _ hq, rfl⟩)
      rintro r6 n6 h6 tk6 F6 N6 off6 ⟨own6, en6, l6, vs6, c6, rfl, m6, R6⟩
      have s6 : ∀ p ∈ o2, p ∈ n6 := fun p hp => by rw [en6]; exact List.mem_append.mpr (.inr (.tail _ hp))
      clear en6
      have e6 := R6.length
      have b6 := under_len (ds.take i) De.n u
      clear N5 F5 F4 N1
      refine ⟨l6, vs6.toArray, c6, _, (fun j ys nw => nw = ((sl, W.listOf (List.toArray sv) sn) :: own) ++ n6 ∧ TxtsAt n6 ys (((underS (ds.take i) De.n u).take j).map (·.2.2))), rfl, rfl, F6, N6, List.mem_append.mpr (.inr m6), (by rw [sizeLine_eq, List.size_toArray]; omega), ⟨rfl, .nil⟩, ?_, ?_⟩
      · rintro g9 j ys nw v hj ⟨rfl, ht⟩ hv
        obtain ⟨r, hr, a9, t1, t2, la, k9, rfl, hma, hx⟩ := R6.get (by simpa using hv)
        refine ⟨a9, _, _, _, _, k9, rfl, List.mem_append.mpr (.inr hma), rfl, rfl, ?_⟩
        intro I oI C oC D m₂ h tk E' hC hx1 hx2 hx3 F9 N9 off ne
        dsimp only at hx1 hx2 hx3
        repeat' (first | (k_unfold; (try dsimp only)) | (k_end; wrow_close) | (dsimp only; walk1) | walk1)
        refine ⟨_, _, _, rfl, F9, N9, off, .inr ⟨_, List.mem_append.mpr (.inr m6), rfl, _, rfl⟩, rfl, ?_⟩
        rw [List.take_add_one, hr, List.map_append]
        exact ht.snoc hx
      · rintro g9 ys nw ⟨rfl, ht⟩ D h tk F9 N9 off
        have e7 : vs6.toArray.size = (underS (ds.take i) De.n u).length := by rw [List.size_toArray, R6.length]
        rw [e7, List.take_length] at ht
        repeat' ((fail_if_success (with_reducible show wpAny _ _ (binaryOp _ _ _) _ _ _)); first | (k_unfold; (try dsimp only)) | (k_end; wrow_close) | ((fail_if_success (with_reducible show wpAny _ _ (subscriptTail _ (PySem.Expr.Slice _ _ _ _) _ _) _ _ _)); dsimp only; walk1) | walk1)
        rename Fr g' L' _ _ => F7
        rename News g' L' _ ((_, W.listOf #[Value.ref _] 0) :: (_, W.listOf #[] 0) :: _) => N7
        rename D < _ ∧ AllLt _ _ => l7
        obtain ⟨le, hle⟩ := nm_head (fun p hp => N7 p (.tail _ hp))
        subst hle
        refine add_lists (vs := ys) (ws := [Value.ref le]) F7 N7 ⟨_, (N7 _ (.tail _ (.tail _ (.head _)))).1, rfl, _, rfl⟩ ⟨_, (N7 _ (.head _)).1, rfl, _, rfl⟩ ?_ (by have := ht.length; rw [List.length_map] at this; rw [sizeLine_eq, List.length_singleton]; omega)
        intro h8 F8 N8
        obtain ⟨x, hx0, hxt⟩ : ∃ x, (ys ++ [Value.ref le]).toArray[(0 : Int).toNat]? = some (Value.ref x) ∧ TxtAt ((le, W.listOf (List.toArray []) 0) :: n6) (.ref x) (underV (underS (ds.take i) De.n u)) := by
          rcases under_cases (ds.take i) De.n u with e | ⟨k0, vals, e, _⟩
          · rw [e] at ht ⊢
            cases ht
            exact ⟨le, rfl, le, [], 0, rfl, .head _, .nil⟩
          · rw [e] at ht ⊢
            cases ht with
            | cons hx hr =>
              cases hr
              obtain ⟨a0, us, n0, rfl, hm0, hs0⟩ := hx
              exact ⟨a0, rfl, a0, us, n0, rfl, .tail _ hm0, hs0⟩
        clear N7 F7
        repeat' ((fail_if_success (with_reducible show wpAny _ _ (call (Value.builtin "list.append") _) _ _ _)); first | (k_unfold; (try dsimp only)) | (k_end; wrow_close) | ((fail_if_success (with_reducible show wpAny _ _ (subscriptTail _ (PySem.Expr.Slice _ _ _ _) _ _) _ _ _)); dsimp only; walk1) | walk1)
        rename Fr g' L' _ _ => F9
        rename News g' L' _ _ => N9
        have l8 := allLt l7.2
        refine app_led (sv := sv) (sn := sn) (keep := own ++ ((le, W.listOf (List.toArray []) 0) :: n6)) F9 (fun p hp => N9 p ?_) ?_ (by rw [sizeLine_eq]; omega) ?_
        · rcases List.mem_cons.mp hp with rfl | hp
          · exact .tail _ (.tail _ (.tail _ (.tail _ (.head _))))
          · rcases List.mem_append.mp hp with hp | hp
            · exact .tail _ (.tail _ (.tail _ (.tail _ (.tail _ (List.mem_append.mpr (.inl hp))))))
            · rcases List.mem_cons.mp hp with rfl | hp
              · exact .tail _ (.tail _ (.head _))
              · exact .tail _ (.tail _ (.tail _ (.tail _ (.tail _ (List.mem_append.mpr (.inr hp))))))
        · intro p hp
          rcases List.mem_append.mp hp with hp | hp
          · exact hoff p hp _ (.head _)
          · rcases List.mem_cons.mp hp with rfl | hp
            · exact (Nat.ne_of_lt (l8 _ (.head _))).symm
            · exact (off6 _ (.head _) p hp).symm
        intro h10 F10 N10
        repeat' ((fail_if_success (with_reducible show InvPostG _ _ _ _ _ _ _ _)); first | (k_unfold; (try dsimp only)) | (k_end; wrow_close) | ((fail_if_success (with_reducible show wpAny _ _ (subscriptTail _ (PySem.Expr.Slice _ _ _ _) _ _) _ _ _)); dsimp only; walk1) | walk1)
        refine ⟨_, _, _, _, (sl, W.listOf (List.toArray (sv ++ [Value.ref x])) (sn + 1)) :: ((le, W.listOf (List.toArray []) 0) :: n6), rfl, F10, N10, fun p hp => (by
          rcases List.mem_cons.mp hp with rfl | hp
          · exact .head _
          · exact .tail _ (List.mem_append.mpr (.inr hp))), fun p hp => .tail _ (List.mem_append.mpr (.inl hp)), ?_, sv ++ [Value.ref x], sn + 1, _, rfl, ?_, (fun p hp => .tail _ (s6 p (hrs p hp))), ?_, ?_, rfl, rfl, rfl⟩
        · intro p hp b hb
          obtain ⟨q, hq, rfl⟩ := List.mem_map.mp hb
          rcases List.mem_cons.mp hq with rfl | hq
          · exact hoff p hp _ (.head _)
          · rcases List.mem_cons.mp hq with rfl | hq
            · exact Nat.ne_of_lt (l8 _ (.tail _ (List.mem_append.mpr (.inl hp))))
            · exact off6 p (.tail _ hp) q hq
        · intro p hp
          rcases List.mem_cons.mp hp with rfl | hp
          · exact (Nat.ne_of_lt (l8 _ (.head _))).symm
          · exact (off6 _ (.head _) p hp).symm
        · rw [lone1, if_pos (by assumption)]
          exact (hT.mono fun p hp => .tail _ (s6 p hp)).snoc hxt
        · rw [List.length_append, List.length_singleton]; omega
    · rename ¬ De.k = 3 => hk3
      exact ⟨_, _, _, _, (sl, W.listOf (List.toArray sv) sn) :: o2, rfl, F4, N1, fun p hp => (by
        rcases List.mem_cons.mp hp with rfl | hp
        · exact .head _
        · exact .tail _ (List.mem_append.mpr (.inl hp))), fun p hp => .tail _ (List.mem_append.mpr (.inr hp)), hoff, sv, sn, o2, rfl, hsl, hrs, (by rw [lone1, if_neg hk3]; exact hT), by omega, rfl, rfl, rfl⟩
  · intro m₁ nx h tk hJ F1 N1
    obtain ⟨sv, sn, o2, rfl, hsl, hrs, hT, hsv, md, mu, ms⟩ := hJ
    have F4 := fr_pin F1 ms
    clear N F lsl NN FF hR F1
    repeat' (first | (k_unfold; (try dsimp only)) | (k_end; wrow_close) | ((fail_if_success (with_reducible show wpAny _ _ (subscriptTail _ (PySem.Expr.Slice _ _ _ _) _ _) _ _ _)); dsimp only; walk1) | walk1 | (leave1; walk_say "STEP leave1"; try dsimp only) | fail "no step")
    rename Fr h₀ L _ m => kF
    rename News h₀ L _ _ => kN
    exact hret _ _ h tk kF kN (aft_of hG' F4 N1) ⟨fun p hp => .tail _ (hrs p hp), _, sv, sn, rfl, .head _, hT.mono fun p hp => .tail _ hp⟩
end
section
open PySem PySem.W PySem.Calls
open PyProof.Rows hiding wpAt wpAt_mono wpAt_bind wpAt_stack strKind
open PySem.W.X (Mem)
set_option Elab.async false
set_option maxRecDepth 100000
set_option maxHeartbeats 2000000
set_option pp.deepTerms false
set_option pp.maxSteps 3000
open LCg
theorem table_spec (w : World) (rest : List (Addr × Obj)) (dl : Addr) (ds : List Deed) (u : Int) (tu : Tok) (hD : DeedsIn rest dl ds) (hlen : ds.length ≤ 10) :
    Tell2 w 244 [.ref dl, .int u tu] 100 rest (fun r news' => (∀ p ∈ rest, p ∈ news') ∧ ∃ tab, TableS ds u tab ∧ TabIn news' r tab) := by
  unfold Tell2
  k_fill
  intro mean mg mb dp un gd cn cs a ccd cl outer A₀ base h₀ L m s Q E B F X N T hk hdp hun hret
  obtain ⟨hp0, gs0, dr0, tk0, os0⟩ := s
  dsimp only at F N hret ⊢
  refine wpAny_call ?_
  k_dflt (refine' code_def2 (binds := [(Str.ofString "deeds", .ref dl), (Str.ofString "until", .int u tu)]) ?k1 ?k2 ?k3 ?k4 ?k5 ?kA ?kF ?kK ?k6 ?k7 ?k8 ?k9 ?kB ?_ ?c2 ?c3 ?c4 ?c5; (case kA => exact rfl); (case kF => exact rfl); (case kK => first | assumption | exact rfl); (case k1 => k_asm); (case k2 => k_asm); (case k3 => k_asm); (case k4 => k_asm); (case k5 => k_asm); (case k6 => k_is); (case k7 => k_is); (case k8 => ktr_room); (case k9 => first | exact BindsTo.of_eq rfl | exact binds_K (by k_in) rfl (by k_is) rfl rfl rfl); (case c5 => decide); (case kB => exact locs rfl); (case c2 => exact rfl); (case c3 => exact rfl); (case c4 => exact rfl); k_whole; intro g' L' h' hG' FG' F' N' B' X' T'; (try dsimp only); (try k_fold))
  repeat' ((fail_if_success (with_reducible show wpAny _ _ (call (Value.ref 239) _) _ _ _)); first | (k_unfold; (try dsimp only)) | (k_end; wrow_close) | (dsimp only; walk1) | walk1)
  refine tell2_call (under_spec w rest dl ds _ u _ _ hD hlen) (by k_asm) (by k_asm) (by k_asm) (by k_asm) (by k_asm) rfl (by ktr_room) (by ktr_units) ?_
  rintro r1 n1 h1 tk1 F1 N1 _ ⟨own1, rfl, l1, vs1, c1, rfl, m1, R1⟩
  have hD1 := hD.mono (o' := own1 ++ rest) fun p hp => List.mem_append.mpr (.inr hp)
  clear F' N'
  repeat' ((fail_if_success (with_reducible show wpAny _ _ (call (Value.ref 239) _) _ _ _)); first | (k_unfold; (try dsimp only)) | (k_end; wrow_close) | (dsimp only; walk1) | walk1)
  refine tell2_call (under_spec w (own1 ++ rest) dl ds _ u _ _ hD1 hlen) (by k_asm) (by k_asm) (by k_asm) (by k_asm) (by k_asm) rfl (by ktr_room) (by ktr_units) ?_
  rintro r2 n2 h2 tk2 F2 N2 _ ⟨own2, rfl, l2, vs2, c2, rfl, m2, R2⟩
  clear F1 N1
  have sub2 : ∀ p ∈ own1 ++ rest, p ∈ own2 ++ (own1 ++ rest) := fun p hp => List.mem_append.mpr (.inr hp)
  have e1 := R1.length
  have e2 := R2.length
  have b1 := under_len ds (Str.ofString "a") u
  have b2 := under_len ds (Str.ofString "") u
  have b3 := under_len ds (Str.ofString "b") u
  refine add_lists F2 N2 (News.isL N2 (sub2 _ m1)) (News.isL N2 m2) ?_ (by rw [sizeLine_eq]; omega)
  intro h3 F3 N3
  have R12 := (R1.mono sub2).append R2
  have hD2 : ∀ x, DeedsIn (x :: (own2 ++ (own1 ++ rest))) dl ds := fun x => hD1.mono fun p hp => List.mem_cons_of_mem _ (sub2 p hp)
  clear F2 N2
  dsimp only
  repeat' ((fail_if_success (with_reducible show wpAny _ _ (call (Value.ref 239) _) _ _ _)); first | (k_unfold; (try dsimp only)) | (k_end; wrow_close) | (dsimp only; walk1) | walk1)
  refine tell2_call (under_spec w _ dl ds _ u _ _ (hD2 _) hlen) (by k_asm) F3 (by k_asm) N3 (by k_asm) rfl (by ktr_room) (by ktr_units) ?_
  rintro r4 n4 h4 tk4 F4 N4 _ ⟨own4, rfl, l4, vs4, c4, rfl, m4, R4⟩
  have e4 := R4.length
  have sub3 : ∀ x, ∀ p ∈ own2 ++ (own1 ++ rest), p ∈ own4 ++ (x :: (own2 ++ (own1 ++ rest))) := fun x p hp => List.mem_append.mpr (.inr (.tail _ hp))
  refine add_lists F4 N4 (News.isL (vs := vs1 ++ vs2) N4 (List.mem_append.mpr (.inr (.head _)))) (News.isL N4 m4) ?_ (by rw [sizeLine_eq, List.length_append]; omega)
  intro h5 F5 N5
  have R124 := (R12.mono (sub3 _)).append R4
  clear F4 N4 N3 F3
  dsimp only
  repeat' ((fail_if_success (with_reducible show wpAny _ _ (eval (Expr.ListComp _ _ _ _) _) _ _ _)); first | (k_unfold; (try dsimp only)) | (k_end; wrow_close) | (dsimp only; walk1) | walk1)
  refine list3 (by k_asm) (by with_unfolding_all rfl) (by decide) rfl (by decide) rfl rfl rfl (by decide) (by decide) (by decide) ?_
  repeat' ((fail_if_success (with_reducible show wpAny _ _ (call (Value.builtin "sorted") _) _ _ _)); first | (k_unfold; (try dsimp only)) | (dsimp only; walk1) | walk1)
  rename Fr _ _ _ _ => FF
  rename News _ _ _ _ => NN
  refine sorted_rows (rs := rowsS ds u) (by rfl) (by ktr_room) (by ktr_units) FF X' T' NN (.head _) (R124.mono fun p hp => .tail _ hp) (rows_len ds u) (rows_ne ds u) ?_
  intro D5 c5 h6 tk6 vs6 rs6 F6 N6 R6 hS6
  clear FF NN
  have l6 : vs6.length ≤ 3 := by rw [R6.length, hS6.1.length_eq]; exact rows_len ds u
  refine ⟨D5, vs6.toArray, c5, _, (fun i ys nw => (∀ p ∈ (D5, W.listOf vs6.toArray c5) :: _, p ∈ nw) ∧ TRowsAre nw ys ((rs6.take i).map fun r => (r.2.1, r.2.2))), rfl, rfl, F6, N6, .head _, (by rw [sizeLine_eq, List.size_toArray]; omega), ⟨fun p hp => hp, .nil⟩, ?_, ?_⟩
  · rintro g9 i ys nw v hi ⟨hs, ht⟩ hv
    obtain ⟨r, hr, a9, t1, t2, la, k9, rfl, hma, hx⟩ := R6.get (by simpa using hv)
    refine ⟨a9, _, _, _, _, k9, rfl, hs _ (.tail _ hma), rfl, rfl, ?_⟩
    intro I oI C oC D m₂ h tk E' hC hx1 hx2 hx3 F9 N9 off ne
    dsimp only at hx1 hx2 hx3
    clear F6 N6 N hret hv
    repeat' (first | (k_unfold; (try dsimp only)) | (k_end; wrow_close) | (dsimp only; walk1) | walk1)
    rename News g' L' _ (_ :: (I, oI) :: _) => NN
    rename Fr g' L' _ _ => FF
    rename _ ∧ _ ∧ _ ∧ AllLt _ _ => ll
    refine ⟨_, _, (_, ({ cls := .type "tuple", data := .seq #[.str r.2.1 t2, .ref la] } : Obj)) :: nw, rfl, FF, fun p hp => NN p ?_, ⟨⟨(Nat.ne_of_lt ll.1).symm, (Nat.ne_of_lt ll.2.1).symm, (Nat.ne_of_lt ll.2.2.1).symm⟩, off⟩, .inr ⟨_, .tail _ (hs _ (.head _)), rfl, _, rfl⟩, fun p hp => .tail _ (hs p hp), ?_⟩
    · rcases List.mem_cons.mp hp with rfl | hp
      · exact .tail _ (.head _)
      · rcases List.mem_cons.mp hp with rfl | hp
        · exact .tail _ (.tail _ (.head _))
        · rcases List.mem_cons.mp hp with rfl | hp
          · exact .tail _ (.tail _ (.tail _ (.head _)))
          · rcases List.mem_cons.mp hp with rfl | hp
            · exact .head _
            · exact .tail _ (.tail _ (.tail _ (.tail _ hp)))
    · rw [List.take_add_one, hr, List.map_append]
      exact (ht.mono fun p hp => .tail _ hp).snoc ⟨_, t2, la, 0, rfl, .head _, hx.mono fun p hp => .tail _ (hs p (.tail _ hp))⟩
  · rintro g9 ys nw ⟨hs, ht⟩ D h tk F9 N9 off
    repeat' (first | (k_unfold; (try dsimp only)) | (k_end; wrow_close) | (dsimp only; walk1) | walk1)
    have e6 : vs6.toArray.size = rs6.length := by rw [List.size_toArray, R6.length]
    rw [e6, List.take_length] at ht
    rename Fr h₀ L _ m => kF
    rename News h₀ L _ _ => kN
    exact hret _ ((D, lst ys) :: nw) h tk kF kN (aft_of hG' F9 (fun p hp => N9 p hp)) ⟨fun p hp => .tail _ (hs p (.tail _ (.tail _ (sub3 _ p (sub2 p (List.mem_append.mpr (.inr hp))))))), _, ⟨rs6, hS6, rfl⟩, D, ys, ys.length, rfl, .head _, ht.mono fun p hp => .tail _ hp⟩
end
section
open PySem PySem.W PySem.Calls
open PyProof.Rows hiding wpAt wpAt_mono wpAt_bind wpAt_stack strKind
open PySem.W.X (Mem)
set_option Elab.async false
set_option maxRecDepth 100000
set_option maxHeartbeats 2000000
set_option pp.deepTerms false
set_option pp.maxSteps 3000
open LCg LCt
local macro_rules | `(tactic| k_all) => `(tactic| assumption)
local macro_rules | `(tactic| bits_by_make) => `(tactic| first | assumption | exact List.Mem.head _ | (refine List.Mem.tail _ ?_; bits_by_make))
local macro_rules | `(tactic| walk_at "call builtin:len") => `(tactic| (k_here; (with_reducible show wpAny _ _ (call (Value.builtin "len") [Value.ref _]) _ _ _); (refine' len_list (items := List.toArray _) ?l ?z ?_; (case l => exact News.isL (by k_asm) (by bits_by_make)); (case z => (simp only [List.size_toArray]; omega)))))
local macro_rules | `(tactic| walk_at "subscriptTail") => `(tactic| (k_here; (with_reducible show wpAny _ _ (subscriptTail _ _ (Value.ref _) (Value.int _ _)) _ _ _); (refine' item_list (items := List.toArray _) ?l ?a ?b ?c ?_; (case c => assumption); (case l => exact News.isL (by k_asm) (by bits_by_make)); (case a => omega); (case b => omega))))
local macro_rules | `(tactic| walk_at "subscriptTail Name Constant ref int") => `(tactic| (k_here; (with_reducible show wpAny _ _ (subscriptTail _ _ (Value.ref _) (Value.int _ _)) _ _ _); (refine' item_list (items := List.toArray _) ?l ?a ?b ?c ?_; (case c => assumption); (case l => exact News.isL (by k_asm) (by bits_by_make)); (case a => omega); (case b => omega))))
local macro_rules | `(tactic| walk_at "subscriptTail Name Name ref int") => `(tactic| (k_here; (with_reducible show wpAny _ _ (subscriptTail _ _ (Value.ref _) (Value.int _ _)) _ _ _); (refine' item_list (items := List.toArray _) ?l ?a ?b ?c ?_; (case c => assumption); (case l => exact News.isL (by k_asm) (by bits_by_make)); (case a => omega); (case b => omega))))
local macro_rules | `(tactic| walk_at "subscriptTail Subscript Constant ref int") => `(tactic| (k_here; (with_reducible show wpAny _ _ (subscriptTail _ _ (Value.ref _) (Value.int _ _)) _ _ _); (refine' item_list (items := List.toArray _) ?l ?a ?b ?c ?_; (case c => assumption); (case l => exact News.isL (by k_asm) (by bits_by_make)); (case a => omega); (case b => omega))))
local macro_rules | `(tactic| walk_at "subscriptTail Subscript Name ref int") => `(tactic| (k_here; (with_reducible show wpAny _ _ (subscriptTail _ _ (Value.ref _) (Value.int _ _)) _ _ _); (refine' item_list (items := List.toArray _) ?l ?a ?b ?c ?_; (case c => assumption); (case l => exact News.isL (by k_asm) (by bits_by_make)); (case a => omega); (case b => omega))))
local macro_rules | `(tactic| walk_at "subscriptTail BinOp Constant ref int") => `(tactic| (k_here; (with_reducible show wpAny _ _ (subscriptTail _ _ (Value.ref _) (Value.int _ _)) _ _ _); (refine' item_list (items := List.toArray _) ?l ?a ?b ?c ?_; (case c => assumption); (case l => exact News.isL (by k_asm) (by bits_by_make)); (case a => omega); (case b => omega))))
local macro_rules | `(tactic| walk_at "subscriptTail") => `(tactic| (k_here; (with_reducible show wpAny _ _ (subscriptTail _ (PySem.Expr.Slice none (some _) none _) (Value.ref _) (Value.ref _)) _ _ _); (refine' kmk_slice_lit ?F ?N ?l ?p ?q ?e ?_ ?s ?t ?z; (case F => k_asm); (case N => k_asm); (case l => exact News.isL (by k_asm) (by bits_by_make)); (case p => exact IsPart.none); (case q => exact IsPart.int _ _); (case e => exact pick_upto (by omega)); (case s => with_unfolding_all rfl); (case t => kmk_pure); (case z => (rw [sizeLine_eq, List.size_toArray]; omega))); intro D' h' F' N' l1'))
local macro_rules | `(tactic| walk_at "subscriptTail Name Slice ref ref") => `(tactic| (k_here; (with_reducible show wpAny _ _ (subscriptTail _ (PySem.Expr.Slice none (some _) none _) (Value.ref _) (Value.ref _)) _ _ _); (refine' kmk_slice_lit ?F ?N ?l ?p ?q ?e ?_ ?s ?t ?z; (case F => k_asm); (case N => k_asm); (case l => exact News.isL (by k_asm) (by bits_by_make)); (case p => exact IsPart.none); (case q => exact IsPart.int _ _); (case e => exact pick_upto (by omega)); (case s => with_unfolding_all rfl); (case t => kmk_pure); (case z => (rw [sizeLine_eq, List.size_toArray]; omega))); intro D' h' F' N' l1'))
local macro_rules | `(tactic| walk_at "getMethod ref") => `(tactic| (k_here; (with_reducible show wpAny _ _ (getMethod (Value.ref _) (PySem.Str.ofString "count") _) _ _ _); (refine' kl_method (its := List.toArray _) ?N ?m PySem.F.slot_list_count PySem.F.type_list_count ?_; (case N => k_asm); (case m => bits_by_make))))
local macro_rules | `(tactic| walk_at "eval ListComp") => `(tactic| (k_here; lct_look; k_dflt (refine LCt.ListComp_T (F₀ := by k_asm) (by with_unfolding_all rfl) (by decide) (by rfl) (by decide) (by rfl) ?_)))
theorem off1_mem {D : Addr} : ∀ {l : List (Addr × Obj)}, LCg.Off1 D l → ∀ p ∈ l, p.1 ≠ D
  | [], _, _, hp => nomatch hp
  | _ :: _, h, p, hp => by
    rcases List.mem_cons.mp hp with rfl | hp
    · exact h.1
    · exact off1_mem h.2 p hp
def atL (l : List Pr) (k : Int) : Pr := l.getD k.toNat (PySem.Str.empty, PySem.Str.empty)
def leftP (l kept : List Pr) (k : Int) : Bool := decide (kept.count (atL l k) < (l.take (k.toNat + 1)).count (atL l k))
theorem left_eq (l kept : List Pr) : ((rangeKs 0 l.length).filter (leftP l kept)).map (atL l) = leftC l (fun x => kept.count x) := by
  rw [leftC_idx l kept (fun i => l.getD i (PySem.Str.empty, PySem.Str.empty)) (fun i h => by rw [List.getD_eq_getElem?_getD, List.getElem?_eq_getElem h]; rfl)]
  unfold rangeKs
  rw [List.filter_map, List.map_map]
  have e1 : (atL l ∘ fun (i : Nat) => 0 + (i : Int)) = fun i => l.getD i (PySem.Str.empty, PySem.Str.empty) := by
    funext i
    simp [atL]
  rw [e1]
  congr 1
  refine List.filter_congr fun i _ => ?_
  simp [leftP, atL]
theorem ValsAre.rows {o : List (Addr × Obj)} {f : Int → Pr} {ks : List Int} {vs : List Value} (h : ValsAre (fun k v => RowV o v (f k)) ks vs) : RowsV o vs (ks.map f) := by
  induction h with
  | nil => exact .nil
  | cons x _ ih => exact .cons x ih
theorem left_spec (w : World) (rest : List (Addr × Obj)) (ml kl : Addr) (mvs kvs : List Value) (mn kn : Nat) (mrs krs : List Pr) (hm : (ml, listOf (List.toArray mvs) mn) ∈ rest) (hkm : (kl, listOf (List.toArray kvs) kn) ∈ rest) (hM : RowsV rest mvs mrs) (hK : RowsV rest kvs krs)
    (oM : ∀ r ∈ mrs, okP r) (oK : ∀ r ∈ krs, okP r) (lM : mrs.length ≤ 1000) (lK : krs.length ≤ 1000) :
    Tell w 259 [.ref ml, .ref kl] 100 rest (fun r news' => ∃ ll lvs ln, r = .ref ll ∧ news' = (ll, listOf (List.toArray lvs) ln) :: rest ∧ (∀ p ∈ rest, p.1 ≠ ll) ∧ RowsV rest lvs (leftC mrs (fun x => krs.count x))) := by
  have lM' := hM.length
  have lK' := hK.length
  unfold Tell
  k_fill
  intro mean mg mb dp un gd cn cs a ccd cl outer A₀ base h₀ L m s Q E B F X N T hk hdp hun hret
  obtain ⟨hp0, gs0, dr0, tk0, os0⟩ := s
  dsimp only at F N hret ⊢
  refine wpAny_call ?_
  k_dflt (refine' code_defC (binds := [(Str.ofString "mine", .ref ml), (Str.ofString "kept", .ref kl)]) ?k1 ?k2 ?k3 ?k4 ?k5 ?kA ?kF ?kK ?k6 ?k7 ?k8 ?k9 ?kB ?kD ?_ ?c2 ?c3 ?c4; (case kA => exact rfl); (case kF => exact rfl); (case kK => first | assumption | exact rfl); (case k1 => k_asm); (case k2 => k_asm); (case k3 => k_asm); (case k4 => k_asm); (case k5 => k_asm); (case k6 => k_is); (case k7 => k_is); (case k8 => ktr_room); (case k9 => first | exact BindsTo.of_eq rfl | exact binds_K (by k_in) rfl (by k_is) rfl rfl rfl); (case kB => exact rfl); (case kD => decide +kernel); (case c2 => exact rfl); (case c3 => exact rfl); (case c4 => exact rfl); k_whole; intro g' L' h' tk' cells' FG' F' N' Y' B' X' T' l1; k_cells Y'; (try simp only [List.cons_append, List.nil_append] at N'); (try dsimp only); (try k_fold))
  repeat' ((fail_if_success (with_reducible show LCt.CompSrcT _ _ _ _ _ _ _ _ _ _ _ _ _ _ _)); first | (k_unfold; (try dsimp only)) | (k_end; wrow_close) | ((fail_if_success (with_reducible show wpAny _ _ (subscriptTail _ (PySem.Expr.Slice _ _ _ _) _ _) _ _ _)); dsimp only; walk1) | walk1)
  rename IsRange _ _ _ _ _ _ _ _ => hR
  have hsz : (mvs.toArray.size : Int) = (mrs.length : Int) := by rw [List.size_toArray, lM']
  rw [hsz] at hR
  refine CompSrcT.range (n := mrs.length) (by rfl) (by k_asm) (by k_asm) hR (range_fit lM).1 (range_fit lM).2 (by rw [sizeLine_eq]; omega) ?_
  intro g9
  refine compT_range (leftP mrs krs) (fun k v => RowV rest v (atL mrs k)) ?_ ?_
  · intro k t I oI C oC D m₂ ys h tk E' h0 h1 hC hx F9 N9 off ne
    obtain ⟨v, hv, hvr⟩ := hM.get (i := k.toNat) (by omega)
    have hv' : mvs.toArray[k.toNat]? = some v := by simpa using hv
    have hat : mrs[k.toNat]'(by omega) = atL mrs k := by unfold atL; rw [List.getD_eq_getElem?_getD, List.getElem?_eq_getElem (by omega)]; rfl
    have hok : okP (atL mrs k) := by rw [← hat]; exact oM _ (List.getElem_mem _)
    rw [hat] at hvr
    clear hR N F hret
    repeat' ((fail_if_success (with_reducible show wpAny _ _ (call (Value.builtin "list.count") _) _ _ _)); first | (k_unfold; (try dsimp only)) | (k_end; wrow_close) | ((fail_if_success (with_reducible show wpAny _ _ (subscriptTail _ (PySem.Expr.Slice _ _ _ _) _ _) _ _ _)); dsimp only; walk1) | walk1)
    rename News g' L' _ _ => N5
    refine count_led N5 (.head _) ((hM.take _).mono fun p hp => by bits_by_make) (hvr.mono fun p hp => by bits_by_make) (fun r hr => oM r (List.mem_of_mem_take hr)) hok (by ke_room) ?_
    dsimp only
    repeat' ((fail_if_success (with_reducible show wpAny _ _ (call (Value.builtin "list.count") _) _ _ _)); first | (k_unfold; (try dsimp only)) | (k_end; wrow_close) | ((fail_if_success (with_reducible show wpAny _ _ (subscriptTail _ (PySem.Expr.Slice _ _ _ _) _ _) _ _ _)); dsimp only; walk1) | walk1)
    rename News g' L' _ ((_, W.listOf (List.toArray (List.take _ mvs)) _) :: _) => N6
    refine count_led (vs := kvs) (n := kn) N6 (by bits_by_make) (hK.mono fun p hp => by bits_by_make) (hvr.mono fun p hp => by bits_by_make) oK hok (by ke_room) ?_
    dsimp only
    repeat' (first | (k_unfold; (try dsimp only)) | (k_end; wrow_close) | ((fail_if_success (with_reducible show wpAny _ _ (subscriptTail _ (PySem.Expr.Slice _ _ _ _) _ _) _ _ _)); dsimp only; walk1) | walk1 | (leave1; walk_say "STEP leave1"; try dsimp only) | fail "no step")
    · unfold leftP
      rw [show (k + 1).toNat = k.toNat + 1 by omega]
      exact decide_eq_decide.mpr (by omega)
    · rename News g' L' _ ((_, W.listOf (List.toArray (List.take _ mvs)) _) :: _) => NN
      rename Fr g' L' _ _ => FF
      exact ⟨_, _, _, rfl, FF, fun p hp => NN p (.tail _ hp), off, trivial, rfl, hvr⟩
    · rename News g' L' _ ((_, W.listOf (List.toArray (List.take _ mvs)) _) :: _) => NN
      rename Fr g' L' _ _ => FF
      exact ⟨_, _, _, rfl, FF, fun p hp => NN p (.tail _ hp), off, trivial, rfl⟩
  intro ys hys
  have hR5 := hys.rows
  rw [left_eq] at hR5
  intro D5 h5 tk5 F5 N5 off5
  repeat' (first | (k_unfold; (try dsimp only)) | (k_end; wrow_close) | ((fail_if_success (with_reducible show wpAny _ _ (subscriptTail _ (PySem.Expr.Slice _ _ _ _) _ _) _ _ _)); dsimp only; walk1) | walk1 | (leave1; walk_say "STEP leave1"; try dsimp only) | fail "no step")
  rename Fr h₀ L _ m => kF
  rename News h₀ L _ _ => kN
  refine hret _ ((D5, W.listOf (List.toArray ys) ys.length) :: rest) h5 tk5 kF (fun p hp => kN p ?_) ⟨D5, ys, ys.length, rfl, rfl, ?_, hR5⟩
  · rcases List.mem_cons.mp hp with rfl | hp
    · exact .head _
    · exact .tail _ (.tail _ (.tail _ hp))
  · exact off1_mem off5.2.2
end
section
open PySem PySem.W PySem.Calls
open PyProof.Rows hiding wpAt wpAt_mono wpAt_bind wpAt_stack strKind
open PySem.W.X (Mem)
set_option Elab.async false
set_option maxRecDepth 100000
set_option maxHeartbeats 2000000
set_option pp.deepTerms false
set_option pp.maxSteps 3000
open LCg
def CellJ (c : Addr) (J : (Str → Option Value) → List (Addr × Obj) → Prop) (m : Str → Option Value) (nx : List (Addr × Obj)) : Prop := ∃ oc v₀ nx0, nx = (c, oc) :: nx0 ∧ oc.data = .cell v₀ ∧ (∀ p ∈ nx0, p.1 ≠ c) ∧ J m nx0
section
variable {prog : Program} {w : World} {A : Around} {E : Value → Shared → Prop} {s : Shared} {h₀ : Heap} {L : Addr} {m : Str → Option Value} {env : Env}
theorem for_pairC {c : Addr} {xi xc : Str} {pk pv pt pos : Pos} {x1 : Nat} {iter : Expr} {body : List Stmt} {Q : Flow → Shared → Prop}
    (hkf : env.scope.kind = .function) (hxi : env.kindOf xi = some .cell) (hci : env.cells.lookup xi = some c) (hxc : env.kindOf xc = some .local) (hp : (env.scope.kind == .class || (env.scope.kind == .module && env.locals != env.globals)) = false)
    (h : wpAny (model prog w) A (eval iter env) (fun xv s₁ => ∃ ax its k m₀ nw oc v₀, ∃ J : Nat → (Str → Option Value) → List (Addr × Obj) → Prop, xv = .ref ax ∧ A.handled = none ∧ Fr h₀ env.locals s₁.heap m₀ ∧ News h₀ env.locals s₁.heap ((c, oc) :: nw) ∧ oc.data = .cell v₀ ∧ (∀ p ∈ nw, p.1 ≠ c) ∧ J 0 m₀ nw ∧ (∀ i m nx, J i m nx → (ax, ({ cls := .type "list", data := .seq its k } : Obj)) ∈ nx) ∧
      (∀ i m₁ nx v, i < its.size → its[i]? = some v → J i m₁ nx → ∃ t ot v0 v1 nt, v = .ref t ∧ (t, ot) ∈ nx ∧ ot.cls = .type "tuple" ∧ ot.data = .seq #[v0, v1] nt ∧
        ∀ h tk own oc, oc.data = .cell (some v0) → OwnOff own (((c, oc) :: nx).map (·.1)) → (∀ p ∈ nx, p.1 ≠ c) → Fr h₀ env.locals h (fun y => if y = xc then some v1 else m₁ y) → News h₀ env.locals h ((c, oc) :: (nx ++ own)) →
          wpAny (model prog w) A (execs body env) (InvPostG h₀ env.locals (CellJ c (J (i + 1))) own { s₁ with heap := h, toks := tk } Q) E { s₁ with heap := h, toks := tk }) ∧
      (∀ m₁ nx h tk oc v₀, J its.size m₁ nx → oc.data = .cell v₀ → (∀ p ∈ nx, p.1 ≠ c) → Fr h₀ env.locals h m₁ → News h₀ env.locals h ((c, oc) :: nx) → Q .next { s₁ with heap := h, toks := tk })) E s)
    (hs : ∀ x, foldedSetIterable iter env x = pure x := by intro _; rfl) (hE : PassesOwn (model prog w) A env E := by passes_own) :
    wpAny (model prog w) A (exec (.For (.Tuple [.Name xi pk, .Name xc pv] x1 pt) iter body [] pos) env) Q E s := by
  refine wpAny_For (wpAny_mono h (fun xv s₁ h₁ => ?_) fun _ _ e => e) hs
  obtain ⟨ax, its, kk, m₀, nw, oc0, v00, J, rfl, hh, F, N, hdc0, hap0, hJ, hax, turn, done⟩ := h₁
  refine fp_loop (fun i => CellJ c (J i)) hh F N ⟨oc0, v00, nw, rfl, hdc0, hap0, hJ⟩ (k := kk) (fun i m nx q => by obtain ⟨oc, v, nx0, rfl, _, _, j⟩ := q; exact .tail _ (hax _ _ _ j)) hE (fun i v I h tk m nx Z E₁ E₂ hlt hv q f go => ?_) fun m nx h tk q F N => by obtain ⟨oc, v, nx0, rfl, a, b, j⟩ := q; exact done m nx0 h tk oc v j a b F N
  obtain ⟨oc, v₀, nx, rfl, hdc, hap, hK⟩ := q
  obtain ⟨t, ot, v0, v1, nt, rfl, hmt, hct, hdt, R⟩ := turn i m nx v hlt hv hK
  have haxc : ax ≠ c := hap _ (hax _ _ _ hK)
  have ht : IsTup h t #[v0, v1] := ⟨ot, (f.nws _ (.tail _ hmt)).1, hct, nt, hdt⟩
  refine wpAny_letOwnedTupleGo_listiter f.it ?_
  refine assign_Tuple_tuple hh ht rfl rfl fun h₅ he => ?_
  replace f := f.keeps fun b o e => he b o (Nat.ne_of_lt (Heap.lt_size e)) e
  have zc := f.nws _ (.head _)
  refine assignInOrder_cons (wpAny_assign_Name (wpAny_storeName_cell hkf hxi hci ⟨oc, zc.1, hdc⟩ fun h6 hv6 hs6 => ?_))
  obtain ⟨oc6, ho6, hd6⟩ := hv6
  have f6 : Fp h₀ env.locals its ax I (i + 1) h6 m ((c, oc6) :: nx) := ⟨f.it.at fun o e => hs6.extBut _ o (f.off _ (.head _)).symm e, f.ls.at fun o e => hs6.extBut _ o haxc e, f.fr.change hs6 zc.2.1 zc.2.2, fun p hp => by
    rcases List.mem_cons.mp hp with rfl | hp
    · exact ⟨ho6, zc.2⟩
    · exact ⟨hs6.extBut _ _ (hap p hp) (f.nws _ (.tail _ hp)).1, (f.nws _ (.tail _ hp)).2⟩, fun p hp => by
    rcases List.mem_cons.mp hp with rfl | hp
    · exact f.off (_, oc) (.head _)
    · exact f.off p (.tail _ hp), f.il, f.i0, f.al⟩
  refine assignInOrder_cons (wpAny_assign_Name (wpAny_storeName_local hxc f6.fr.ns (fun h7 hn7 hs7 => ?_) hp))
  exact assignInOrder_nil (go _ _ _ _ (f6.set hn7 hs7) fun h tk own ho F N => R h tk own oc6 hd6 ho hap F N)
end
end
section
open PySem PySem.W PySem.Calls
open PyProof.Rows hiding wpAt wpAt_mono wpAt_bind wpAt_stack strKind
open PySem.W.X (Mem)
set_option Elab.async false
set_option maxRecDepth 100000
set_option maxHeartbeats 2000000
set_option pp.deepTerms false
set_option pp.maxSteps 3000
open LCg LCt
local macro_rules | `(tactic| bits_by_make) => `(tactic| first | assumption | exact List.Mem.head _ | (refine List.Mem.tail _ ?_; bits_by_make))
local macro_rules | `(tactic| walk_at "call builtin:len") => `(tactic| (k_here; (with_reducible show wpAny _ _ (call (Value.builtin "len") [Value.ref _]) _ _ _); (refine' len_list (items := List.toArray _) ?l ?z ?_; (case l => exact News.isL (by k_asm) (by bits_by_make)); (case z => (simp only [List.size_toArray]; omega)))))
local macro_rules | `(tactic| walk_at "subscriptTail Name Slice ref ref") => `(tactic| (k_here; (with_reducible show wpAny _ _ (subscriptTail _ (PySem.Expr.Slice none (some _) none _) (Value.ref _) (Value.ref _)) _ _ _); (refine' kmk_slice_lit ?F ?N ?l ?p ?q ?e ?_ ?s ?t ?z; (case F => k_asm); (case N => k_asm); (case l => exact News.isL (by k_asm) (by bits_by_make)); (case p => exact IsPart.none); (case q => exact IsPart.int _ _); (case e => exact pick_upto (by omega)); (case s => with_unfolding_all rfl); (case t => kmk_pure); (case z => (rw [sizeLine_eq, List.size_toArray]; omega))); intro D' h' F' N' l1'))
def keptLen (kept : Tab) (n : Str) : Nat := ((kept.filter fun r => decide (r.1 = n)).map fun r => r.2.length).sum
def lostS (tab kept : Tab) : List Pr := tab.flatMap fun r => (r.2.take (r.2.length - keptLen kept r.1)).map fun x => (r.1, x)
theorem TRowsAre.get {o : List (Addr × Obj)} {vs : List Value} {rs : Tab} (y : TRowsAre o vs rs) {i : Nat} {v : Value} (h : vs[i]? = some v) : ∃ r, rs[i]? = some r ∧ TRowIn o v r := by
  induction y generalizing i with
  | nil => simp at h
  | cons x _ ih =>
    cases i with
    | zero => cases h; exact ⟨_, rfl, x⟩
    | succ i => exact ih h
theorem TRowsAre.length {o : List (Addr × Obj)} {vs : List Value} {rs : Tab} (y : TRowsAre o vs rs) : vs.length = rs.length := by
  induction y with
  | nil => rfl
  | cons _ _ ih => rw [List.length_cons, List.length_cons, ih]
theorem strs_len {vs : List Value} {ws : List Str} (y : StrsAre vs ws) : vs.length = ws.length := by
  induction y with
  | nil => rfl
  | cons _ _ _ ih => rw [List.length_cons, List.length_cons, ih]
theorem ints_snoc {vs : List Value} {ks : List Int} (h : IntsAre vs ks) (k : Int) (t : Tok) : IntsAre (vs ++ [.int k t]) (ks ++ [k]) := by
  induction h with
  | nil => exact .cons k t .nil
  | cons a b _ ih => exact .cons a b ih
theorem len_sum (l : Tab) : (l.map fun q => (q.2.length : Int)).sum = ((l.map fun q => q.2.length).sum : Nat) := by
  induction l with
  | nil => rfl
  | cons a r ih => rw [List.map_cons, List.map_cons, List.sum_cons, List.sum_cons, ih]; omega
theorem strs_get {vs : List Value} {ws : List Str} (y : StrsAre vs ws) {i : Nat} {v : Value} (h : vs[i]? = some v) : ∃ x t, ws[i]? = some x ∧ v = .str x t := by
  induction y generalizing i with
  | nil => simp at h
  | cons a b _ ih =>
    cases i with
    | zero => cases h; exact ⟨_, _, rfl, rfl⟩
    | succ i => exact ih h
theorem strs_take {vs : List Value} {ws : List Str} (y : StrsAre vs ws) (i : Nat) : StrsAre (vs.take i) (ws.take i) := by
  induction y generalizing i with
  | nil => rw [List.take_nil, List.take_nil]; exact .nil
  | cons a b _ ih =>
    cases i with
    | zero => exact .nil
    | succ i => exact .cons a b (ih i)
def LostI (base : List Pr) (n : Str) (W : List Str) (kl ll c : Addr) (oc : Obj) (rest own : List (Addr × Obj)) (j : Nat) (m : Str → Option Value) (nx : List (Addr × Obj)) : Prop :=
  ∃ lvs ln o4, nx = (ll, listOf (List.toArray lvs) ln) :: (c, oc) :: (own ++ o4) ∧ (∀ p ∈ o4, p.1 ≠ ll ∧ p.1 ≠ c ∧ ∀ q ∈ own, q.1 ≠ p.1) ∧ (∀ p ∈ rest, p ∈ o4) ∧ RowsV o4 lvs (base ++ (W.take j).map fun x => (n, x)) ∧ m (Str.ofString "kept") = some (.ref kl) ∧ m (Str.ofString "lost") = some (.ref ll)
def LostJ (tab kept : Tab) (kl ll : Addr) (rest : List (Addr × Obj)) (i : Nat) (m : Str → Option Value) (nx : List (Addr × Obj)) : Prop :=
  ∃ lvs ln o2, nx = (ll, listOf (List.toArray lvs) ln) :: o2 ∧ (∀ p ∈ o2, p.1 ≠ ll) ∧ (∀ p ∈ rest, p ∈ o2) ∧ RowsV o2 lvs (lostS (tab.take i) kept) ∧ m (Str.ofString "kept") = some (.ref kl) ∧ m (Str.ofString "lost") = some (.ref ll)
theorem lost_spec (w : World) (rest : List (Addr × Obj)) (tl kl : Addr) (tab kept : Tab) (hT : TabIn rest (.ref tl) tab) (hK : TabIn rest (.ref kl) kept) (hle : ∀ r ∈ tab, keptLen kept r.1 ≤ r.2.length) (h1 : tab.length ≤ 100) (h2 : kept.length ≤ 100) (h3 : ∀ r ∈ tab, r.2.length ≤ 1000) (h4 : ∀ r ∈ kept, r.2.length ≤ 1000) (h5 : ∀ i, (lostS (tab.take i) kept).length ≤ 1000) :
    Tell2 w 254 [.ref tl, .ref kl] 100 rest (fun r news' => (∀ p ∈ rest, p ∈ news') ∧ ∃ ll lvs ln, r = .ref ll ∧ (ll, listOf (List.toArray lvs) ln) ∈ news' ∧ RowsV news' lvs (lostS tab kept)) := by
  obtain ⟨_, tvs, tn, e0, htm, htr⟩ := hT
  cases e0
  obtain ⟨_, kvs, kn, e0, hkm, hkr⟩ := hK
  cases e0
  have htl := htr.length
  have hkl := hkr.length
  unfold Tell2
  k_fill
  intro mean mg mb dp un gd cn cs a ccd cl outer A₀ base h₀ L m s Q E B F X N T hk hdp hun hret
  obtain ⟨hp0, gs0, dr0, tk0, os0⟩ := s
  dsimp only at F N hret ⊢
  refine wpAny_call ?_
  k_dflt (refine' code_defC2 (binds := [(Str.ofString "table", .ref tl), (Str.ofString "kept", .ref kl)]) ?k1 ?k2 ?k3 ?k4 ?k5 ?kA ?kF ?kK ?k6 ?k7 ?k8 ?k9 ?kB ?kD ?_ ?c2 ?c3 ?c4; (case kA => exact rfl); (case kF => exact rfl); (case kK => first | assumption | exact rfl); (case k1 => k_asm); (case k2 => k_asm); (case k3 => k_asm); (case k4 => k_asm); (case k5 => k_asm); (case k6 => k_is); (case k7 => k_is); (case k8 => ktr_room); (case k9 => first | exact BindsTo.of_eq rfl | exact binds_K (by k_in) rfl (by k_is) rfl rfl rfl); (case kB => exact rfl); (case kD => decide +kernel); (case c2 => exact rfl); (case c3 => exact rfl); (case c4 => exact rfl); k_whole; intro g' L' h' tk' cells' hG' FG' F' N' Y' B' X' T' l1; k_cells Y'; (try simp only [List.cons_append, List.nil_append] at N'); (try dsimp only); (try k_fold))
  repeat' ((fail_if_success (with_reducible show wpAny _ _ (exec (Stmt.For _ _ _ _ _) _) _ _ _)); first | (k_unfold; (try dsimp only)) | (k_end; wrow_close) | ((fail_if_success (with_reducible show wpAny _ _ (subscriptTail _ (PySem.Expr.Slice _ _ _ _) _ _) _ _ _)); dsimp only; walk1) | walk1)
  rename Fr g' L' _ _ => FF
  rename News g' L' _ _ => NN
  rename L' + 1 < _ ∧ AllLt _ rest => lD
  obtain ⟨ll, hll⟩ := nm_head NN
  subst hll
  have lD2 := allLt lD.2
  have hc0 : ∀ p ∈ rest, p.1 ≠ L' + 1 := fun p hp => Nat.ne_of_lt (Nat.lt_succ_of_lt (l1 p hp))
  refine for_pairC (h₀ := g') (c := L' + 1) (by rfl) (by rfl) (by rfl) (by rfl) (by rfl) ?_ (by intro _; rfl) (by first | passes_own | with_unfolding_all passes_own)
  repeat' ((fail_if_success (with_reducible show Exists _)); first | (k_unfold; (try dsimp only)) | (k_end; wrow_close) | ((fail_if_success (with_reducible show wpAny _ _ (subscriptTail _ (PySem.Expr.Slice _ _ _ _) _ _) _ _ _)); dsimp only; walk1) | walk1)
  refine ⟨tl, tvs.toArray, tn, _, (ll, W.listOf (List.toArray []) 0) :: rest, _, _, LostJ tab kept kl ll rest, rfl, rfl, FF, ?_, by assumption, ?_, ⟨[], 0, rest, rfl, fun p hp => Nat.ne_of_lt (lD2 p hp), fun p hp => hp, .nil, rfl, rfl⟩, ?_, ?_, ?_⟩
  · intro p hp
    rcases List.mem_cons.mp hp with rfl | hp
    · exact NN _ (.tail _ (.head _))
    · rcases List.mem_cons.mp hp with rfl | hp
      · exact NN _ (.head _)
      · exact NN _ (.tail _ (.tail _ hp))
  · intro p hp
    rcases List.mem_cons.mp hp with rfl | hp
    · exact (Nat.ne_of_lt lD.1).symm
    · exact hc0 p hp
  · rintro i m₁ nx ⟨lvs, ln, o2, rfl, _, hs, _⟩
    exact .tail _ (hs _ htm)
  · rintro i m₁ nx v hi hv ⟨lvs, ln, o2, rfl, hap, hs, hR, mk, ml⟩
    obtain ⟨r, hr, ta, t1, la, k9, rfl, hma, hx⟩ := htr.get (by simpa using hv)
    refine ⟨ta, _, _, _, k9, rfl, .tail _ (hs _ hma), rfl, rfl, ?_⟩
    intro h tk own oc hoc hoff hapc F1 N1
    obtain ⟨_, us, un9, e9, hxm, hxs⟩ := hx
    cases e9
    have hrm : r ∈ tab := List.mem_of_getElem? hr
    have hul := strs_len hxs
    have hul2 := h3 r hrm
    have F2 := fr_pin2 F1 ml
    have F3 := fr_pin2 F2 (x := Str.ofString "kept") (by rw [if_neg (by decide)]; exact mk)
    replace N1 : News g' L' h ((L' + 1, oc) :: (ll, W.listOf (List.toArray lvs) ln) :: (o2 ++ own)) := N1
    have hxm2 : (la, W.listOf (List.toArray us) un9) ∈ o2 ++ own := List.mem_append.mpr (.inl (hs _ hxm))
    have hkm2 : (kl, W.listOf (List.toArray kvs) kn) ∈ o2 ++ own := List.mem_append.mpr (.inl (hs _ hkm))
    clear F1 F2 NN FF hret N
    repeat' ((fail_if_success (with_reducible show wpAny _ _ (eval (Expr.ListComp _ _ _ _) _) _ _ _)); first | (k_unfold; (try dsimp only)) | (k_end; wrow_close) | ((fail_if_success (with_reducible show wpAny _ _ (subscriptTail _ (PySem.Expr.Slice _ _ _ _) _ _) _ _ _)); dsimp only; walk1) | walk1)
    refine list2c (by k_asm) (by with_unfolding_all rfl) (by decide) rfl (by decide) rfl rfl (by decide) ?_
    repeat' ((fail_if_success (with_reducible show Exists _)); first | (k_unfold; (try dsimp only)) | (k_end; wrow_close) | ((fail_if_success (with_reducible show wpAny _ _ (subscriptTail _ (PySem.Expr.Slice _ _ _ _) _ _) _ _ _)); dsimp only; walk1) | walk1)
    rename Fr g' L' _ _ => F4
    rename News g' L' _ _ => N4
    refine ⟨kl, kvs.toArray, kn, _, (fun j ys nw => nw = (L' + 1, oc) :: (ll, W.listOf (List.toArray lvs) ln) :: (o2 ++ own) ∧ ys.length ≤ j ∧ IntsAre ys (((kept.take j).filter fun q => decide (q.1 = r.1)).map fun q => (q.2.length : Int))), rfl, rfl, F4, N4, .tail _ (.tail _ hkm2), (by rw [sizeLine_eq, List.size_toArray]; omega), ⟨rfl, Nat.le_refl _, .nil⟩, ?_, ?_⟩
    · rintro g9 j ys nw v hj ⟨rfl, hyl, hti⟩ hv
      obtain ⟨q, hq, qa, t2, lb, k2, rfl, hmb, hy⟩ := hkr.get (by simpa using hv)
      obtain ⟨_, vs2, vn2, e2, hym, hys⟩ := hy
      cases e2
      have hql := strs_len hys
      have hql2 := h4 q (List.mem_of_getElem? hq)
      have hym2 : (lb, W.listOf (List.toArray vs2) vn2) ∈ o2 ++ own := List.mem_append.mpr (.inl (hs _ hym))
      refine ⟨qa, _, _, _, k2, rfl, .tail _ (.tail _ (List.mem_append.mpr (.inl (hs _ hmb)))), rfl, rfl, hyl, ?_⟩
      intro I oI C oC D m₂ h tk E' hC hx1 hx2 F9 N9 off ne
      dsimp only at hx1 hx2
      clear F4 N4
      repeat' (first | (k_unfold; (try dsimp only)) | (k_end; wrow_close) | (dsimp only; walk1) | walk1)
      · have hqr : q.1 = r.1 := by first | assumption | exact of_decide_eq_true (by assumption)
        rename Fr g' L' _ _ => F6
        rename News g' L' _ _ => N6
        refine ⟨_, _, _, rfl, F6, N6, off, .inr ⟨_, .tail _ (.tail _ hkm2), rfl, _, rfl⟩, rfl, by rw [List.length_append, List.length_singleton]; omega, ?_⟩
        rw [List.take_add_one, hq, List.filter_append, List.map_append]
        simp only [Option.toList_some, List.filter_cons, List.filter_nil, decide_eq_true hqr, if_true, List.map_cons, List.map_nil]
        have e7 : ((vs2.toArray.size : Nat) : Int) = (q.2.length : Int) := by rw [List.size_toArray, hql]
        rw [e7]
        exact ints_snoc hti _ _
      · have hqr : ¬ q.1 = r.1 := by first | assumption | exact of_decide_eq_false (by assumption)
        rename Fr g' L' _ _ => F6
        rename News g' L' _ _ => N6
        refine ⟨_, _, _, rfl, F6, N6, off, .inr ⟨_, .tail _ (.tail _ hkm2), rfl, _, rfl⟩, rfl, Nat.le_succ_of_le hyl, ?_⟩
        rw [List.take_add_one, hq, List.filter_append, List.map_append]
        simp only [Option.toList_some, List.filter_cons, List.filter_nil, decide_eq_false hqr, Bool.false_eq_true, if_false, List.map_nil, List.append_nil]
        exact hti
    · rintro g9 ys nw ⟨rfl, hyl, hti⟩ D h tk F9 N9 off
      repeat' ((fail_if_success (with_reducible show wpAny _ _ (call (Value.builtin "sum") _) _ _ _)); first | (k_unfold; (try dsimp only)) | (k_end; wrow_close) | ((fail_if_success (with_reducible show wpAny _ _ (subscriptTail _ (PySem.Expr.Slice _ _ _ _) _ _) _ _ _)); dsimp only; walk1) | walk1)
      have e8 : kvs.toArray.size = kept.length := by rw [List.size_toArray, hkl]
      rw [e8, List.take_length] at hti
      refine sumK (by rfl) F9 N9 ⟨_, (N9 _ (.head _)).1, rfl, _, rfl⟩ hti ?_
      intro h7 tk7 t7 F7 N7
      rw [len_sum]
      have hkl2 : (List.map (fun q => q.2.length) (List.filter (fun q => decide (q.1 = r.1)) kept)).sum = keptLen kept r.1 := rfl
      rw [hkl2]
      have hle2 : keptLen kept r.1 ≤ us.toArray.size := by rw [List.size_toArray, hul]; exact hle r hrm
      have hle3 : us.toArray.size ≤ 1000 := by rw [List.size_toArray, hul]; exact hul2
      clear F9 N9
      dsimp only
      repeat' ((fail_if_success (with_reducible show wpAny _ _ (exec (Stmt.For _ _ _ _ _) _) _ _ _)); first | (k_unfold; (try dsimp only)) | (k_end; wrow_close) | ((fail_if_success (with_reducible show wpAny _ _ (subscriptTail _ (PySem.Expr.Slice _ _ _ _) _ _) _ _ _)); dsimp only; walk1) | walk1)
      refine For_invV g' (by rfl) (by rfl) ?_ (by intro _; rfl) (by first | passes_own | with_unfolding_all passes_own)
      repeat' ((fail_if_success (with_reducible show wpAny _ _ (pyIter (Value.ref _)) _ _ _)); first | (k_unfold; (try dsimp only)) | (k_end; wrow_close) | ((fail_if_success (with_reducible show wpAny _ _ (subscriptTail _ (PySem.Expr.Slice _ _ _ _) _ _) _ _ _)); dsimp only; walk1) | walk1)
      rename Fr g' L' _ _ => F8
      rename News g' L' _ _ => N8
      rename (∀ p ∈ (D, _) :: _, Prod.fst p < _) => l8
      have hW : StrsAre (us.take ((us.toArray.size : Int) - (keptLen kept r.1 : Int)).toNat) (r.2.take (r.2.length - keptLen kept r.1)) := by
        have e10 : ((us.toArray.size : Int) - (keptLen kept r.1 : Int)).toNat = r.2.length - keptLen kept r.1 := by rw [List.size_toArray, hul]; omega
        rw [e10]; exact strs_take hxs _
      have hl5 := h5 (i + 1)
      have e11 : lostS (tab.take (i + 1)) kept = lostS (tab.take i) kept ++ (r.2.take (r.2.length - keptLen kept r.1)).map fun x => (r.1, x) := by
        unfold lostS
        rw [List.take_add_one, hr, List.flatMap_append]
        simp
      rw [e11] at hl5
      have hbl : lvs.length = (lostS (tab.take i) kept).length := hR.length
      refine loop_list (its := (us.take ((us.toArray.size : Int) - (keptLen kept r.1 : Int)).toNat).toArray) (k := 0) (news := (ll, W.listOf (List.toArray lvs) ln) :: (L' + 1, oc) :: (own ++ o2)) (LostI (lostS (tab.take i) kept) r.1 (r.2.take (r.2.length - keptLen kept r.1)) kl ll (L' + 1) oc rest own) (by rfl) F8 (fun p hp => N8 p ?_) ?_ ⟨lvs, ln, o2, rfl, ?_, hs, (by rw [List.take_zero, List.map_nil, List.append_nil]; exact hR), rfl, rfl⟩ ?_ ?_
      · rcases List.mem_cons.mp hp with rfl | hp
        · exact .head _
        · rcases List.mem_cons.mp hp with rfl | hp
          · exact .tail _ (.tail _ (.tail _ (.head _)))
          · rcases List.mem_cons.mp hp with rfl | hp
            · exact .tail _ (.tail _ (.head _))
            · refine .tail _ (.tail _ (.tail _ (.tail _ ?_)))
              rcases List.mem_append.mp hp with hp | hp
              · exact List.mem_append.mpr (.inr hp)
              · exact List.mem_append.mpr (.inl hp)
      · intro p hp
        refine Nat.ne_of_lt (l8 p (.tail _ ?_))
        rcases List.mem_cons.mp hp with rfl | hp
        · exact .tail _ (.head _)
        · rcases List.mem_cons.mp hp with rfl | hp
          · exact .head _
          · refine .tail _ (.tail _ ?_)
            rcases List.mem_append.mp hp with hp | hp
            · exact List.mem_append.mpr (.inr hp)
            · exact List.mem_append.mpr (.inl hp)
      · intro p hp
        exact ⟨hap p hp, hapc p (.tail _ hp), fun q hq => hoff q hq _ (List.mem_map.mpr ⟨p, .tail _ (.tail _ hp), rfl⟩)⟩
      · intro j v m₁ nx h tk own3 hj hv hoff3 hJ F1 N1
        obtain ⟨lvs3, ln3, o4, rfl, hap4, hs4, hR4, mk4, ml4⟩ := hJ
        obtain ⟨x, tx, hx9, rfl⟩ := strs_get hW (by simpa using hv)
        have F2 := fr_pin2 F1 ml4
        have F3 := fr_pin2 F2 (x := Str.ofString "kept") (by rw [if_neg (by decide)]; exact mk4)
        have hjl : j < (r.2.take (r.2.length - keptLen kept r.1)).length := by
          rcases Nat.lt_or_ge j (r.2.take (r.2.length - keptLen kept r.1)).length with c | c
          · exact c
          · rw [List.getElem?_eq_none c] at hx9; cases hx9
        have hl6 : lvs3.length ≤ 1000 := by
          rw [hR4.length, List.length_append, List.length_map, List.length_take]
          rw [List.length_append, List.length_map] at hl5
          omega
        replace N1 : News g' L' h ((ll, W.listOf (List.toArray lvs3) ln3) :: (L' + 1, oc) :: ((own ++ o4) ++ own3)) := N1
        clear F1 F2 N8 F8
        repeat' ((fail_if_success (with_reducible show wpAny _ _ (call (Value.builtin "list.append") _) _ _ _)); first | (k_unfold; (try dsimp only)) | (k_end; wrow_close) | ((fail_if_success (with_reducible show wpAny _ _ (subscriptTail _ (PySem.Expr.Slice _ _ _ _) _ _) _ _ _)); dsimp only; walk1) | walk1)
        rename Fr g' L' _ _ => F9
        rename News g' L' _ ((_, W.listOf #[Value.str r.1 _, Value.str x _] 0) :: _) => N9
        obtain ⟨le, hle9⟩ := nm_head N9
        subst hle9
        rename ll < le ∧ _ => lE
        have lE2 := allLt (l := (ll, W.listOf (List.toArray lvs3) ln3) :: (L' + 1, oc) :: ((own ++ o4) ++ own3)) lE
        have hcl : L' + 1 ≠ ll := hapc _ (.head _) |>.symm
        refine app_led (sv := lvs3) (sn := ln3) (keep := (le, W.listOf #[Value.str r.1 t1, Value.str x tx] 0) :: (L' + 1, oc) :: ((own ++ o4) ++ own3)) F9 (fun p hp => N9 p ?_) ?_ (by rw [sizeLine_eq]; omega) ?_
        · rcases List.mem_cons.mp hp with rfl | hp
          · exact .tail _ (.head _)
          · rcases List.mem_cons.mp hp with rfl | hp
            · exact .head _
            · exact .tail _ (.tail _ hp)
        · intro p hp
          rcases List.mem_cons.mp hp with rfl | hp
          · exact (Nat.ne_of_lt (lE2 _ (.head _))).symm
          · rcases List.mem_cons.mp hp with rfl | hp
            · exact hcl
            · rcases List.mem_append.mp hp with hp | hp
              · rcases List.mem_append.mp hp with hp | hp
                · exact hoff p hp _ (.tail _ (.head _))
                · exact (hap4 p hp).1
              · exact hoff3 p hp _ (.head _)
        intro h10 F10 N10
        repeat' ((fail_if_success (with_reducible show InvPostG _ _ _ _ _ _ _ _)); first | (k_unfold; (try dsimp only)) | (k_end; wrow_close) | ((fail_if_success (with_reducible show wpAny _ _ (subscriptTail _ (PySem.Expr.Slice _ _ _ _) _ _) _ _ _)); dsimp only; walk1) | walk1)
        refine ⟨_, _, _, _, (ll, W.listOf (List.toArray (lvs3 ++ [Value.ref le])) (ln3 + 1)) :: (L' + 1, oc) :: (own ++ ((le, W.listOf #[Value.str r.1 t1, Value.str x tx] 0) :: o4)), rfl, F10, N10, ?_, fun p hp => .tail _ (.tail _ (.tail _ (List.mem_append.mpr (.inr hp)))), ?_, lvs3 ++ [Value.ref le], ln3 + 1, _, rfl, ?_, (fun p hp => .tail _ (hs4 p hp)), ?_, rfl, rfl⟩
        · intro p hp
          rcases List.mem_cons.mp hp with rfl | hp
          · exact .head _
          · rcases List.mem_cons.mp hp with rfl | hp
            · exact .tail _ (.tail _ (.head _))
            · rcases List.mem_append.mp hp with hp | hp
              · exact .tail _ (.tail _ (.tail _ (List.mem_append.mpr (.inl (List.mem_append.mpr (.inl hp))))))
              · rcases List.mem_cons.mp hp with rfl | hp
                · exact .tail _ (.head _)
                · exact .tail _ (.tail _ (.tail _ (List.mem_append.mpr (.inl (List.mem_append.mpr (.inr hp))))))
        · intro p hp b hb
          obtain ⟨q, hq, rfl⟩ := List.mem_map.mp hb
          rcases List.mem_cons.mp hq with rfl | hq
          · exact hoff3 p hp _ (.head _)
          · rcases List.mem_cons.mp hq with rfl | hq
            · exact hoff3 p hp _ (.tail _ (.head _))
            · rcases List.mem_append.mp hq with hq | hq
              · exact hoff3 p hp _ (List.mem_map.mpr ⟨q, .tail _ (.tail _ (List.mem_append.mpr (.inl hq))), rfl⟩)
              · rcases List.mem_cons.mp hq with rfl | hq
                · exact Nat.ne_of_lt (lE2 p (.tail _ (.tail _ (List.mem_append.mpr (.inr hp)))))
                · exact hoff3 p hp _ (List.mem_map.mpr ⟨q, .tail _ (.tail _ (List.mem_append.mpr (.inr hq))), rfl⟩)
        · intro p hp
          rcases List.mem_cons.mp hp with rfl | hp
          · exact ⟨(Nat.ne_of_lt (lE2 _ (.head _))).symm, (Nat.ne_of_lt (lE2 _ (.tail _ (.head _)))).symm, fun q hq => Nat.ne_of_lt (lE2 q (.tail _ (.tail _ (List.mem_append.mpr (.inl (List.mem_append.mpr (.inl hq)))))))⟩
          · exact hap4 p hp
        · rw [List.take_add_one, hx9]
          simp only [Option.toList_some, List.map_append, List.map_cons, List.map_nil, ← List.append_assoc]
          exact (hR4.mono fun p hp => .tail _ hp).snoc ⟨le, t1, tx, 0, rfl, .head _⟩
      · intro m₁ nx h tk hJ F1 N1
        obtain ⟨lvs3, ln3, o4, rfl, hap4, hs4, hR4, mk4, ml4⟩ := hJ
        have e12 : (us.take ((us.toArray.size : Int) - (keptLen kept r.1 : Int)).toNat).toArray.size = (r.2.take (r.2.length - keptLen kept r.1)).length := by rw [List.size_toArray, strs_len hW]
        rw [e12, List.take_length, ← e11] at hR4
        repeat' ((fail_if_success (with_reducible show InvPostG _ _ _ _ _ _ _ _)); first | (k_unfold; (try dsimp only)) | (k_end; wrow_close) | ((fail_if_success (with_reducible show wpAny _ _ (subscriptTail _ (PySem.Expr.Slice _ _ _ _) _ _) _ _ _)); dsimp only; walk1) | walk1)
        refine ⟨_, _, _, _, (L' + 1, oc) :: (ll, W.listOf (List.toArray lvs3) ln3) :: o4, rfl, F1, N1, ?_, fun p hp => .tail _ (.tail _ (List.mem_append.mpr (.inl hp))), ?_, oc, _, _, rfl, hoc, ?_, lvs3, ln3, o4, rfl, fun p hp => (hap4 p hp).1, hs4, hR4, mk4, ml4⟩
        · intro p hp
          rcases List.mem_cons.mp hp with rfl | hp
          · exact .tail _ (.head _)
          · rcases List.mem_cons.mp hp with rfl | hp
            · exact .head _
            · exact .tail _ (.tail _ (List.mem_append.mpr (.inr hp)))
        · intro p hp b hb
          obtain ⟨q, hq, rfl⟩ := List.mem_map.mp hb
          rcases List.mem_cons.mp hq with rfl | hq
          · exact hoff p hp _ (.head _)
          · rcases List.mem_cons.mp hq with rfl | hq
            · exact hoff p hp _ (.tail _ (.head _))
            · exact (hap4 q hq).2.2 p hp
        · intro p hp
          rcases List.mem_cons.mp hp with rfl | hp
          · exact hapc (ll, W.listOf (List.toArray lvs) ln) (.head _)
          · exact (hap4 p hp).2.1
  · intro m₁ nx h tk oc v₀ hJ hoc hapc F1 N1
    obtain ⟨lvs, ln, o2, rfl, hap, hs, hR, mk, ml⟩ := hJ
    have F2 := fr_pin F1 ml
    clear NN FF N F1
    repeat' (first | (k_unfold; (try dsimp only)) | (k_end; wrow_close) | ((fail_if_success (with_reducible show wpAny _ _ (subscriptTail _ (PySem.Expr.Slice _ _ _ _) _ _) _ _ _)); dsimp only; walk1) | walk1 | (leave1; walk_say "STEP leave1"; try dsimp only) | fail "no step")
    rename Fr h₀ L _ m => kF
    rename News h₀ L _ _ => kN
    have e6 : tvs.toArray.size = tab.length := by rw [List.size_toArray, htl]
    rw [e6, List.take_length] at hR
    exact hret _ ((ll, W.listOf (List.toArray lvs) ln) :: o2) h tk kF (fun p hp => kN p (.tail _ hp)) ((aft_of hG' F2 N1).sub fun p hp => .tail _ hp) ⟨fun p hp => .tail _ (hs p hp), ll, lvs, ln, rfl, .head _, hR.mono fun p hp => .tail _ hp⟩
end
section
open PySem PySem.W PySem.Calls
open PyProof.Rows hiding wpAt wpAt_mono wpAt_bind wpAt_stack strKind
open PySem.W.X (Mem)
set_option Elab.async false
set_option maxRecDepth 100000
set_option maxHeartbeats 2000000
set_option pp.deepTerms false
set_option pp.maxSteps 3000
section
variable {ds : List Deed} {u : Int} {t t' : Tab} {n : Str}
theorem since_sorted : (sinceS ds n).Pairwise fun a b => a < b := by
  have h0 : (rangeKs 0 ds.length).Pairwise fun a b => a < b := by
    unfold rangeKs
    rw [List.pairwise_map]
    exact List.pairwise_lt_range.imp fun {a b} h => by omega
  exact (h0.filter _).filter _

def valU (ds : List Deed) (n : Str) (u : Int) : List Str := underV (underS ds n u)
theorem valU_eq (h : underS ds n u = [] ) : valU ds n u = [] := by unfold valU; rw [h]; rfl

theorem val_suffix (hl : (ds.length : Int) ≤ 10) : ∃ P, valU ds n 10 = P ++ valU ds n u := by
  unfold valU
  cases hm : makS ds n u with
  | nil =>
    have : underS ds n u = [] := by unfold underS; rw [hm]
    rw [this]
    exact ⟨_, (List.append_nil _).symm⟩
  | cons k1 r1 =>
    have e1 : underS ds n u = [(k1, n, ((sinceS ds n).filter fun k => decide (k1 ≤ k) && decide (dK ds k ≠ 3)).map (dV ds))] := by unfold underS; rw [hm]
    have hk1 : k1 ∈ sinceS ds n := (List.mem_filter.mp (by rw [hm]; exact .head _ : k1 ∈ makS ds n u)).1
    have hall : makS ds n 10 = sinceS ds n := by
      unfold makS
      refine List.filter_eq_self.mpr fun k hk => ?_
      have := mem_rangeKs (since_sub hk)
      rw [Bool.or_eq_true]
      exact .inl (decide_eq_true (by omega))
    cases hs : sinceS ds n with
    | nil => rw [hs] at hk1; cases hk1
    | cons k0 r0 =>
      have e0 : underS ds n 10 = [(k0, n, ((sinceS ds n).filter fun k => decide (k0 ≤ k) && decide (dK ds k ≠ 3)).map (dV ds))] := by unfold underS; rw [hall, hs]
      rw [e0, e1]
      show ∃ P, ((sinceS ds n).filter fun k => decide (k0 ≤ k) && decide (dK ds k ≠ 3)).map (dV ds) = P ++ ((sinceS ds n).filter fun k => decide (k1 ≤ k) && decide (dK ds k ≠ 3)).map (dV ds)
      have hso := since_sorted (ds := ds) (n := n)
      have hmin : ∀ k ∈ sinceS ds n, k0 ≤ k := fun k hk => by
        rw [hs] at hk hso
        rcases List.mem_cons.mp hk with rfl | hk
        · exact Int.le_refl _
        · exact Int.le_of_lt ((List.pairwise_cons.mp hso).1 k hk)
      have key : ∀ l : List Int, l.Pairwise (fun a b => a < b) → ∃ Q, l.filter (fun k => decide (dK ds k ≠ 3)) = Q ++ l.filter (fun k => decide (k1 ≤ k) && decide (dK ds k ≠ 3)) := by
        intro l hl
        induction l with
        | nil => exact ⟨[], rfl⟩
        | cons a r ih =>
          obtain ⟨ha, hr⟩ := List.pairwise_cons.mp hl
          by_cases c : k1 ≤ a
          · refine ⟨[], ?_⟩
            rw [List.nil_append]
            refine List.filter_congr fun k hk => ?_
            have : k1 ≤ k := by
              rcases List.mem_cons.mp hk with rfl | hk
              · exact c
              · exact Int.le_trans c (Int.le_of_lt (ha k hk))
            rw [decide_eq_true this, Bool.true_and]
          · obtain ⟨Q, hQ⟩ := ih hr
            have e2 : (a :: r).filter (fun k => decide (k1 ≤ k) && decide (dK ds k ≠ 3)) = r.filter (fun k => decide (k1 ≤ k) && decide (dK ds k ≠ 3)) := by
              rw [List.filter_cons, decide_eq_false c, Bool.false_and]; rfl
            rw [e2, List.filter_cons]
            by_cases c3 : decide (dK ds a ≠ 3) = true
            · rw [if_pos c3, hQ]; exact ⟨a :: Q, rfl⟩
            · rw [if_neg c3, hQ]; exact ⟨Q, rfl⟩
      obtain ⟨Q, hQ⟩ := key _ hso
      have e3 : (sinceS ds n).filter (fun k => decide (k0 ≤ k) && decide (dK ds k ≠ 3)) = (sinceS ds n).filter (fun k => decide (dK ds k ≠ 3)) := List.filter_congr fun k hk => by rw [decide_eq_true (hmin k hk), Bool.true_and]
      rw [e3, hQ, List.map_append]
      exact ⟨_, rfl⟩

structure TabOf (ds : List Deed) (u : Int) (t : Tab) : Prop where
  nd : (t.map (·.1)).Nodup
  val : ∀ r ∈ t, r.1 ∈ namesL ∧ r.2 = valU ds r.1 u
  cm : ∀ n ∈ namesL, underS ds n u ≠ [] → ∃ r ∈ t, r.1 = n
theorem tab_of (h : TableS ds u t) : TabOf ds u t ∧ t.length ≤ 3 := by
  obtain ⟨rs, ⟨hp, hs⟩, rfl⟩ := h
  have hin : ∀ r ∈ rs, r.2.1 ∈ namesL ∧ underS ds r.2.1 u = [r] := by
    intro r hr
    have hr := hp.mem_iff.mp hr
    have one : ∀ {n : Str}, n ∈ namesL → r ∈ underS ds n u → r.2.1 ∈ namesL ∧ underS ds r.2.1 u = [r] := by
      intro n hn h
      rcases under_cases ds n u with e | ⟨k0, vs, e, _⟩
      · rw [e] at h; cases h
      · rw [e] at h
        have h := List.mem_singleton.mp h
        subst h
        exact ⟨hn, e⟩
    unfold rowsS at hr
    rcases List.mem_append.mp hr with hr | hr
    · rcases List.mem_append.mp hr with hr | hr
      · exact one (.head _) hr
      · exact one (.tail _ (.head _)) hr
    · exact one (.tail _ (.tail _ (.head _))) hr
  refine ⟨⟨?_, ?_, ?_⟩, ?_⟩
  · rw [List.map_map]
    show (rs.map fun r => r.2.1).Nodup
    have nd : rs.Nodup := hs.imp fun {a b} hab e => by rw [e] at hab; exact Int.lt_irrefl _ hab
    rw [List.Nodup, List.pairwise_map]
    refine nd.imp_of_mem fun {a b} ha hb hab e => hab ?_
    have h1 := (hin a ha).2
    have h2 := (hin b hb).2
    rw [e, h2] at h1
    exact (List.cons.inj h1).1.symm
  · intro r hr
    obtain ⟨q, hq, rfl⟩ := List.mem_map.mp hr
    refine ⟨(hin q hq).1, ?_⟩
    unfold valU
    rw [(hin q hq).2]; rfl
  · intro n hn hne
    rcases under_cases ds n u with e | ⟨k0, vs, e, _⟩
    · exact absurd e hne
    · refine ⟨(n, vs), List.mem_map.mpr ⟨(k0, n, vs), hp.mem_iff.mpr ?_, rfl⟩, rfl⟩
      have hx : (k0, n, vs) ∈ underS ds n u := by rw [e]; exact .head _
      unfold rowsS
      unfold namesL at hn
      simp only [List.mem_cons, List.not_mem_nil, or_false] at hn
      rcases hn with rfl | rfl | rfl
      · exact List.mem_append.mpr (.inl (List.mem_append.mpr (.inl hx)))
      · exact List.mem_append.mpr (.inl (List.mem_append.mpr (.inr hx)))
      · exact List.mem_append.mpr (.inr hx)
  · rw [List.length_map, hp.length_eq]; exact rows_len ds u
theorem valU_len : (valU ds n u).length ≤ ds.length := by
  unfold valU underS
  cases makS ds n u with
  | nil => exact Nat.zero_le _
  | cons k0 r =>
    show (((sinceS ds n).filter _).map _).length ≤ _
    rw [List.length_map]
    refine Nat.le_trans (List.length_filter_le _ _) (Nat.le_trans (List.length_filter_le _ _) (Nat.le_trans (List.length_filter_le _ _) ?_))
    rw [rangeKs_length]
    exact Nat.le_refl _
theorem valU_ok (hv : ∀ D ∈ ds, D.v ∈ valsL) : ∀ x ∈ valU ds n u, x ∈ valsL := by
  unfold valU underS
  cases makS ds n u with
  | nil => intro x hx; cases hx
  | cons k0 r =>
    intro x hx
    obtain ⟨k, hk, rfl⟩ := List.mem_map.mp (show x ∈ ((sinceS ds n).filter _).map (dV ds) from hx)
    have := mem_rangeKs (since_sub (List.mem_filter.mp hk).1)
    have hl : k.toNat < ds.length := by omega
    rw [dV_of (List.getElem?_eq_getElem hl)]
    exact hv _ (List.getElem_mem hl)
theorem names_ok : ∀ x ∈ namesL, okS x := by unfold okS; decide +kernel
theorem vals_ok : ∀ x ∈ valsL, okS x := by unfold okS; decide +kernel
theorem tab_ok (h : TabOf ds u t) (hv : ∀ D ∈ ds, D.v ∈ valsL) : ∀ r ∈ t, okTR r := fun r hr => ⟨names_ok _ (h.val r hr).1, fun x hx => vals_ok _ (valU_ok hv x (by rw [(h.val r hr).2] at hx; exact hx))⟩
theorem flat_ok (h : TabOf ds u t) (hv : ∀ D ∈ ds, D.v ∈ valsL) : ∀ r ∈ flat t, okP r := fun r hr => by
  unfold flat at hr
  obtain ⟨q, hq, hr⟩ := List.mem_flatMap.mp hr
  obtain ⟨x, hx, rfl⟩ := List.mem_map.mp hr
  exact ⟨(tab_ok h hv q hq).1, (tab_ok h hv q hq).2 x hx⟩
theorem flat_len (h : TabOf ds u t) (h3 : t.length ≤ 3) (hl : ds.length ≤ 10) : (flat t).length ≤ 30 := by
  have key : ∀ l : Tab, (∀ r ∈ l, r.2.length ≤ 10) → (flat l).length ≤ 10 * l.length := by
    intro l
    induction l with
    | nil => intro _; exact Nat.le_refl _
    | cons a r ih =>
      intro hl
      have h1 := hl a (.head _)
      have h2 := ih fun x hx => hl x (.tail _ hx)
      unfold flat at h2 ⊢
      rw [List.flatMap_cons, List.length_append, List.length_map, List.length_cons]
      omega
  have := key t fun r hr => by rw [(h.val r hr).2]; exact Nat.le_trans valU_len hl
  omega
theorem lone_ok (hv : ∀ D ∈ ds, D.v ∈ valsL) : ∀ i, ∀ q ∈ loneS ds u i, ∀ x ∈ q, okS x := by
  intro i
  induction i with
  | zero => intro q hq; cases hq
  | succ i ih =>
    unfold loneS
    cases e : ds[i]? with
    | none => exact ih
    | some D =>
      dsimp only
      by_cases c : D.k = 3
      · rw [if_pos c]
        intro q hq x hx
        rcases List.mem_append.mp hq with hq | hq
        · exact ih q hq x hx
        · rw [List.mem_singleton.mp hq] at hx
          exact vals_ok _ (valU_ok (ds := ds.take i) (fun D hD => hv D (List.mem_of_mem_take hD)) x hx)
      · rw [if_neg c]; exact ih

theorem count_flat (h : (t.map (·.1)).Nodup) (n x : Str) : (flat t).count (n, x) = ((t.find? fun r => decide (r.1 = n)).elim 0 fun r => r.2.count x) := by
  have blk : ∀ (m : Str) (ws : List Str), (ws.map fun y => (m, y)).count (n, x) = if m = n then ws.count x else 0 := by
    intro m ws
    induction ws with
    | nil => simp
    | cons a r ih =>
      rw [List.map_cons, List.count_cons, ih, List.count_cons]
      by_cases c : m = n <;> by_cases c2 : a = x <;> simp [c, c2]
  induction t with
  | nil => rfl
  | cons a r ih =>
    rw [List.map_cons, List.nodup_cons] at h
    unfold flat at ih ⊢
    rw [List.flatMap_cons, List.count_append, blk, ih h.2, List.find?_cons]
    by_cases c : a.1 = n
    · rw [if_pos c, decide_eq_true c]
      have : r.find? (fun q => decide (q.1 = n)) = none := by
        rw [List.find?_eq_none]
        intro q hq e
        exact h.1 (List.mem_map.mpr ⟨q, hq, by rw [of_decide_eq_true e, c]⟩)
      rw [this]; simp
    · rw [if_neg c, decide_eq_false c]; simp
theorem TabOf.find (h : TabOf ds u t) (hn : n ∈ namesL) : ((t.find? fun r => decide (r.1 = n)).elim 0 fun r => r.2.count x) = (valU ds n u).count x := by
  cases e : t.find? (fun r => decide (r.1 = n)) with
  | none =>
    by_cases c : underS ds n u = []
    · rw [valU_eq c]; rfl
    · obtain ⟨r, hr, hrn⟩ := h.cm n hn c
      exact absurd (decide_eq_true hrn) (by simpa using List.find?_eq_none.mp e r hr)
  | some r =>
    have h1 := List.mem_of_find?_eq_some e
    have h2 : r.1 = n := of_decide_eq_true (List.find?_some (p := fun r : Str × List Str => decide (r.1 = n)) e)
    show r.2.count x = _
    rw [(h.val r h1).2, h2]
theorem TabOf.kept (h : TabOf ds u t) (hn : n ∈ namesL) : keptLen t n = (valU ds n u).length := by
  unfold keptLen
  have key : ∀ l : Tab, (l.map (·.1)).Nodup → (∀ r ∈ l, r.1 = n → r.2 = valU ds n u) → ((l.filter fun r => decide (r.1 = n)).map fun r => r.2.length).sum = if (∃ r ∈ l, r.1 = n) then (valU ds n u).length else 0 := by
    intro l
    induction l with
    | nil => intro _ _; simp
    | cons a r ih =>
      intro hd hv
      rw [List.map_cons, List.nodup_cons] at hd
      have h2 := ih hd.2 fun q hq => hv q (.tail _ hq)
      rw [List.filter_cons]
      by_cases c : a.1 = n
      · have hno : ¬ ∃ q ∈ r, q.1 = n := fun ⟨q, hq, e⟩ => hd.1 (List.mem_map.mpr ⟨q, hq, by rw [e, c]⟩)
        rw [if_neg hno] at h2
        rw [if_pos (decide_eq_true c), List.map_cons, List.sum_cons, h2, if_pos ⟨a, .head _, c⟩, hv a (.head _) c]; rfl
      · rw [if_neg (by simpa using c), h2]
        congr 1
        refine propext ⟨fun ⟨q, hq, e⟩ => ⟨q, .tail _ hq, e⟩, fun ⟨q, hq, e⟩ => ?_⟩
        rcases List.mem_cons.mp hq with rfl | hq
        · exact absurd e c
        · exact ⟨q, hq, e⟩
  rw [key t h.nd fun r hr e => by rw [(h.val r hr).2, e]]
  by_cases c : ∃ r ∈ t, r.1 = n
  · rw [if_pos c]
  · rw [if_neg c]
    by_cases c2 : underS ds n u = []
    · rw [valU_eq c2]; rfl
    · exact absurd (h.cm n hn c2) c
theorem kept_le (h : TabOf ds 10 t) (h' : TabOf ds u t') (hl : (ds.length : Int) ≤ 10) : ∀ r ∈ t, keptLen t' r.1 ≤ r.2.length := fun r hr => by
  rw [h'.kept (h.val r hr).1, (h.val r hr).2]
  obtain ⟨P, hP⟩ := val_suffix (ds := ds) (n := r.1) (u := u) hl
  rw [hP, List.length_append]; omega

theorem bag_le (h : TabOf ds 10 t) (h' : TabOf ds u t') (hl : (ds.length : Int) ≤ 10) (x : Pr) : (flat t').count x ≤ (flat t).count x := by
  obtain ⟨n, x⟩ := x
  rw [count_flat h.nd, count_flat h'.nd]
  by_cases hn : n ∈ namesL
  · rw [h.find hn, h'.find hn]
    obtain ⟨P, hP⟩ := val_suffix (ds := ds) (n := n) (u := u) hl
    rw [hP, List.count_append]; omega
  · have : ∀ {u t}, TabOf ds u t → t.find? (fun r => decide (r.1 = n)) = none := fun h => by
      rw [List.find?_eq_none]
      intro r hr e
      exact hn (of_decide_eq_true e ▸ (h.val r hr).1)
    rw [this h, this h']; exact Nat.le_refl _
theorem diff_left (h : TabOf ds 10 t) (h' : TabOf ds u t') (hl : (ds.length : Int) ≤ 10) : diffR (flat t').reverse (flat t) = ([], leftC (flat t) (fun x => (flat t').count x)) := by
  rw [diffR_eq]
  congr 1
  · exact leftC_nil fun x => by rw [List.count_reverse]; exact bag_le h h' hl x
  · congr 1
    funext x
    rw [List.count_reverse]

theorem lost_rev (h' : TabOf ds u t') (hl : (ds.length : Int) ≤ 10) : ∀ (k : Nat) (l : Tab), l.length = k → (l.map (·.1)).Nodup → (∀ r ∈ l, r.1 ∈ namesL ∧ r.2 = valU ds r.1 10) → ∀ c : Pr → Nat, (∀ r ∈ l, ∀ x, c (r.1, x) = (valU ds r.1 u).count x) → leftC (flat l).reverse c = (lostS l t').reverse := by
  intro k
  induction k with
  | zero =>
    intro l hk _ _ c _
    rw [List.length_eq_zero_iff.mp hk]; rfl
  | succ k ih =>
    intro l hk hd hv c hc
    obtain ⟨l0, r, rfl⟩ : ∃ l0 r, l = l0 ++ [r] := by
      have hne : l ≠ [] := fun e => by rw [e] at hk; cases hk
      exact ⟨l.dropLast, l.getLast hne, (List.dropLast_concat_getLast hne).symm⟩
    have hr := hv r (List.mem_append.mpr (.inr (.head _)))
    obtain ⟨P, hP⟩ := val_suffix (ds := ds) (n := r.1) (u := u) hl
    rw [flat_snoc, List.reverse_append, leftC_append]
    have hlost : lostS (l0 ++ [r]) t' = lostS l0 t' ++ P.map fun x => (r.1, x) := by
      unfold lostS
      rw [List.flatMap_append]
      congr 1
      rw [List.flatMap_cons, List.flatMap_nil, List.append_nil, h'.kept hr.1, hr.2, hP, List.length_append]
      rw [show P.length + (valU ds r.1 u).length - (valU ds r.1 u).length = P.length by omega, List.take_left]
    rw [hlost, List.reverse_append]
    have hblk : ∀ (ws : List Str) (x : Str), (ws.map fun y => (r.1, y)).count (r.1, x) = ws.count x := by
      intro ws x
      induction ws with
      | nil => rfl
      | cons a q ih =>
        rw [List.map_cons, List.count_cons, List.count_cons, ih]
        by_cases c2 : a = x <;> simp [c2]
    congr 1
    · rw [hr.2, hP, List.map_append, List.reverse_append, leftC_append]
      have e1 : leftC ((valU ds r.1 u).map fun x => (r.1, x)).reverse c = [] := leftC_nil fun y => by
        rw [List.count_reverse]
        by_cases hy : y.1 = r.1
        · obtain ⟨y1, y2⟩ := y
          dsimp only at hy
          subst hy
          rw [hblk, hc r (List.mem_append.mpr (.inr (.head _)))]
          exact Nat.le_refl _
        · rw [List.count_eq_zero_of_not_mem]
          · exact Nat.zero_le _
          · intro hm
            obtain ⟨z, _, e⟩ := List.mem_map.mp hm
            exact hy (by rw [← e])
      rw [e1, List.nil_append]
      refine leftC_all fun y hy => ?_
      rw [List.mem_reverse] at hy
      obtain ⟨z, _, rfl⟩ := List.mem_map.mp hy
      rw [List.count_reverse, hblk, hc r (List.mem_append.mpr (.inr (.head _)))]
      omega
    · rw [List.map_append] at hd
      have hd2 := List.nodup_append.mp hd
      refine ih l0 (by rw [List.length_append, List.length_singleton] at hk; omega) hd2.1 (fun q hq => hv q (List.mem_append.mpr (.inl hq))) _ fun q hq x => ?_
      rw [List.count_reverse, hc q (List.mem_append.mpr (.inl hq))]
      have hqr : q.1 ≠ r.1 := hd2.2.2 q.1 (List.mem_map.mpr ⟨q, hq, rfl⟩) r.1 (.head _)
      have hz : ((r.2.map fun y => (r.1, y)) : List Pr).count (q.1, x) = 0 := List.count_eq_zero_of_not_mem fun hm => by
        obtain ⟨z, _, e⟩ := List.mem_map.mp hm
        exact hqr (congrArg Prod.fst e).symm
      rw [hz, Nat.sub_zero]
theorem diff_lost (h : TabOf ds 10 t) (h' : TabOf ds u t') (hl : (ds.length : Int) ≤ 10) : diffR (flat t).reverse (flat t') = ((lostS t t').reverse, []) := by
  rw [diffR_eq]
  congr 1
  · refine lost_rev h' hl _ t rfl h.nd h.val _ fun r hr x => ?_
    rw [count_flat h'.nd, h'.find (h.val r hr).1]
  · exact leftC_nil fun x => by rw [List.count_reverse]; exact bag_le h h' hl x
theorem lost_len (h : TabOf ds 10 t) (h3 : t.length ≤ 3) (hl : ds.length ≤ 10) (i : Nat) : (lostS (t.take i) t').length ≤ 30 := by
  have key : ∀ l : Tab, (∀ r ∈ l, r.2.length ≤ 10) → (lostS l t').length ≤ 10 * l.length := by
    intro l
    induction l with
    | nil => intro _; exact Nat.le_refl _
    | cons a r ih =>
      intro hl
      have h1 := hl a (.head _)
      have h2 := ih fun x hx => hl x (.tail _ hx)
      unfold lostS at h2 ⊢
      rw [List.flatMap_cons, List.length_append, List.length_map, List.length_cons, List.length_take]
      omega
  have := key (t.take i) fun r hr => by
    have hr := List.mem_of_mem_take hr
    rw [(h.val r hr).2]; exact Nat.le_trans valU_len hl
  rw [List.length_take] at this
  omega
end
end
section
open PySem PySem.W PySem.Calls
open PyProof.Rows hiding wpAt wpAt_mono wpAt_bind wpAt_stack strKind
open PySem.W.X (Mem)
set_option Elab.async false
set_option maxRecDepth 100000
set_option maxHeartbeats 2000000
set_option pp.deepTerms false
set_option pp.maxSteps 3000
open LCg LCt
def lawP (K : Frag) : Option (List Stmt × Scope) := match K.lookup 264 with
  | some ⟨_, _, .func fd, _⟩ => match fd.body with
    | .stmts (_ :: _ :: _ :: .For _ _ body _ _ :: _) => some (body, fd.scope)
    | _ => none
  | _ => none
theorem item_last {prog : Program} {w : World} {A : Around} {E : Value → Shared → Prop} {s : Shared} {value slice : Expr} {l : Addr} {vs : List Value} {v : Value} {u : Tok} {Q : Value → Shared → Prop} (hl : s.heap.IsList l (vs ++ [v]).toArray) (h : Q v s)
    (hs : subscripted slice false (.ref l) (.int (-1) u) = operate [.ref l, .int (-1) u] (getItem (.ref l) (.int (-1) u)) := by with_unfolding_all rfl) (hg : ∀ r, letTemporaryGo value (.ref l) r = pure () := by intro _; with_unfolding_all rfl) :
    wpAny (model prog w) A (subscriptTail value slice (.ref l) (.int (-1) u)) Q E s := by
  refine subscriptTail_builtin hl.typeIs slot_list_getitem.lookup (wpAny_getItem_list_neg hl (by decide) (by simp; omega) (by decide) ?_ h) hs hg
  rw [List.size_toArray, List.length_append, List.length_singleton]
  rw [show ((-1 : Int) + ((vs.length + 1 : Nat) : Int)).toNat = vs.length by omega]
  simp
local macro_rules | `(tactic| bits_by_make) => `(tactic| first | assumption | exact List.Mem.head _ | (refine List.Mem.tail _ ?_; bits_by_make))
local macro_rules | `(tactic| walk_at "subscriptTail") => `(tactic| (k_here; (with_reducible show wpAny _ _ (subscriptTail _ _ (Value.ref _) (Value.int (-1) _)) _ _ _); (refine' item_last ?l ?_ ?s ?t; (case l => exact News.isL (by k_asm) (by bits_by_make)); (case s => with_unfolding_all rfl); (case t => (intro _; with_unfolding_all rfl)))))
theorem TabIn.mono {o o' : List (Addr × Obj)} (h : ∀ p ∈ o, p ∈ o') {r : Value} {tab : Tab} (x : TabIn o r tab) : TabIn o' r tab := by
  obtain ⟨l, vs, n, e, m, y⟩ := x
  exact ⟨l, vs, n, e, h _ m, y.mono h⟩
theorem fr_three {g h : Heap} {L : Addr} {m : Str → Option Value} {x1 x2 x3 : Str} {v1 v2 v3 : Value} (F : Fr g L h m) (e1 : m x1 = some v1) (e2 : m x2 = some v2) (e3 : m x3 = some v3) : Fr g L h (fun y => if y = x1 then some v1 else if y = x2 then some v2 else if y = x3 then some v3 else m y) := by
  have : (fun y => if y = x1 then some v1 else if y = x2 then some v2 else if y = x3 then some v3 else m y) = m := by
    funext y
    by_cases c1 : y = x1
    · rw [if_pos c1, c1, e1]
    by_cases c2 : y = x2
    · rw [if_neg c1, if_pos c2, c2, e2]
    by_cases c3 : y = x3
    · rw [if_neg c1, if_neg c2, if_pos c3, c3, e3]
    · rw [if_neg c1, if_neg c2, if_neg c3]
  rw [this]
  exact F
theorem law_turn (w : World) {mean : ExcName → Option Value} {mg mb : Str → Option Value} {fa : Addr} {g : Heap} {L : Addr} {m₁ : Str → Option Value} {s : Shared} {Q : Flow → Shared → Prop} {E : Value → Shared → Prop} {bod : List Stmt} {sco : Scope} {cdv : Value}
    {dl tbl rwl : Addr} {ds : List Deed} {u : Int} {tu : Tok} {tvs rvs : List Value} {tn rn : Nat} {o : List (Addr × Obj)} (hD : DeedsIn o dl ds) (hlen : ds.length = 10) (hu0 : 0 ≤ u) (hnm : ∀ D ∈ ds, D.n ∈ namesL ∧ D.v ∈ valsL ∧ 0 ≤ D.k ∧ D.k < 6)
    (B : Below callerA g [] g) (X : (hd.heap_1 w.params).In g) (T : Top topProg lo mean mg mb g) (hP : lawP (hd.heap_1 w.params) = some (bod, sco))
    (F : Fr g L s.heap (fun y => if y = Str.ofString "until" then some (.int u tu) else if y = Str.ofString "deeds" then some (.ref dl) else if y = Str.ofString "tables" then some (.ref tbl) else if y = Str.ofString "rows" then some (.ref rwl) else m₁ y))
    (N : News g L s.heap ((tbl, listOf (List.toArray tvs) tn) :: (rwl, listOf (List.toArray rvs) rn) :: (100, tabObj #[]) :: o)) (h12 : tbl ≠ rwl) (ht : ∀ p ∈ (100, tabObj #[]) :: o, p.1 ≠ tbl) (hr : ∀ p ∈ (100, tabObj #[]) :: o, p.1 ≠ rwl) (h100 : ∀ p ∈ o, p.1 ≠ 100) (ltv : tvs.length ≤ 5) (lrv : rvs.length ≤ 5)
    (hq : ∀ (t : Value) (rl : Addr) (rws : List Value) (rc : Nat) (tab : Tab) (o' : List (Addr × Obj)) (m' : Str → Option Value) (h' : Heap) (tk' : Nat), TableS ds u tab → TabIn o' t tab → (rl, listOf (List.toArray rws) rc) ∈ o' → RowsV o' rws (flat tab) → (∀ p ∈ o, p ∈ o') → (∀ p ∈ o, p.1 ≠ rl) → (u = 10 → (100, tabObj #[]) ∈ o') → (∃ tp, (100, tabObj tp) ∈ o') → (∀ p ∈ o', p.1 ≠ tbl ∧ p.1 ≠ rwl) →
      Fr g L h' (fun y => if y = Str.ofString "deeds" then some (.ref dl) else if y = Str.ofString "tables" then some (.ref tbl) else if y = Str.ofString "rows" then some (.ref rwl) else m' y) →
      News g L h' ((tbl, listOf (List.toArray (tvs ++ [t])) (tn + 1)) :: (rwl, listOf (List.toArray (rvs ++ [.ref rl])) (rn + 1)) :: o') → Q .next { s with heap := h', toks := tk' }) :
    wpAny (model PySem.Challenge.rw_in0186_01.row.prog w) (callerA.deeper (envOf (Str.ofString "law") sco L fa cdv)) (execs bod (envOf (Str.ofString "law") sco L fa cdv)) Q E s := by
  revert hP X
  k_fill
  intro X hP
  have hP' : ∃ x, lawP (hd.heap_1 w.params) = some x ∧ x = (bod, sco) := ⟨_, hP, rfl⟩
  clear hP
  obtain ⟨x, hx, hxe⟩ := hP'
  have hx2 := hx
  rw [show lawP (hd.heap_1 w.params) = some _ from rfl] at hx2
  have hx3 := Option.some.inj hx2
  rw [← hx3] at hxe
  obtain ⟨hxa, hxb⟩ := Prod.mk.inj hxe
  clear hx hx2 hx3 hxe
  subst hxa hxb
  repeat' ((fail_if_success (with_reducible show wpAny _ _ (call (Value.ref 234) _) _ _ _)); first | (k_unfold; (try dsimp only)) | (k_end; wrow_close) | (dsimp only; walk1) | walk1)
  refine tell2_aside (hid := [(tbl, W.listOf (List.toArray tvs) tn), (rwl, W.listOf (List.toArray rvs) rn)]) (news := (100, tabObj #[]) :: o) (run_spec w o dl ds u tu hD (by omega) h100 hu0) B F X N T rfl (by decide) (by decide) ?_ ?_
  · intro p hp q hq
    rcases List.mem_cons.mp hp with rfl | hp
    · exact (ht q hq).symm
    · rw [List.mem_singleton.mp hp]; exact (hr q hq).symm
  rintro r1 n1 h1 tk1 F1 N1 off1 ⟨tup, b, sl, d, ep, es, sv, sn, o2, nx, ntp, rfl, R, rfl⟩
  clear F N
  replace N1 : News g L h1 ((tbl, W.listOf (List.toArray tvs) tn) :: (rwl, W.listOf (List.toArray rvs) rn) :: (tup, ({ cls := .type "tuple", data := .seq #[.ref b, .ref sl] ntp } : Obj)) :: nx) := N1
  have hoN : ∀ p ∈ o, p ∈ nx := fun p hp => R.o2in (R.rest p hp)
  have hDn : DeedsIn nx dl ds := hD.mono hoN
  have offt : ∀ p ∈ nx, p.1 ≠ tbl := fun p hp => (off1 _ (.head _) p (.tail _ hp)).symm
  have offr : ∀ p ∈ nx, p.1 ≠ rwl := fun p hp => (off1 _ (.tail _ (.head _)) p (.tail _ hp)).symm
  repeat' ((fail_if_success (with_reducible show wpAny _ _ (call (Value.ref 244) _) _ _ _)); first | (k_unfold; (try dsimp only)) | (k_end; wrow_close) | (dsimp only; walk1) | walk1)
  rename Fr g L _ _ => F2
  rename News g L _ _ => N2
  refine tell2_aside (hid := [(tbl, W.listOf (List.toArray tvs) tn), (rwl, W.listOf (List.toArray rvs) rn)]) (news := nx) (table_spec w nx dl ds u tu hDn (by omega)) B F2 X (fun p hp => N2 p ?_) T rfl (by decide) (by decide) ?_ ?_
  · rcases List.mem_append.mp hp with hp | hp
    · rcases List.mem_cons.mp hp with rfl | hp
      · exact .head _
      · rw [List.mem_singleton.mp hp]; exact .tail _ (.head _)
    · exact .tail _ (.tail _ (.tail _ hp))
  · intro p hp q hq
    rcases List.mem_cons.mp hp with rfl | hp
    · exact (offt q hq).symm
    · rw [List.mem_singleton.mp hp]; exact (offr q hq).symm
  rintro t n3 h3 tk3 F3 N3 off3 ⟨hs3, tab, hTab, hTin⟩
  try clear F2
  try clear N2
  try clear F1
  try clear N1
  replace N3 : News g L h3 ((tbl, W.listOf (List.toArray tvs) tn) :: (rwl, W.listOf (List.toArray rvs) rn) :: n3) := N3
  repeat' ((fail_if_success (with_reducible show wpAny _ _ (call (Value.builtin "list.append") _) _ _ _)); first | (k_unfold; (try dsimp only)) | (k_end; wrow_close) | (dsimp only; walk1) | walk1)
  rename Fr g L _ _ => F4
  rename News g L _ _ => N4
  refine app_led (sv := tvs) (sn := tn) (keep := (rwl, W.listOf (List.toArray rvs) rn) :: n3) F4 N4 ?_ (by rw [sizeLine_eq]; omega) ?_
  · intro p hp
    rcases List.mem_cons.mp hp with rfl | hp
    · exact h12.symm
    · exact (off3 _ (.head _) p hp).symm
  intro h5 F5 N5
  try clear F4
  try clear N4
  try clear F3
  try clear N3
  dsimp only
  have hTO := tab_of hTab
  have hrows : rows es = tab := by
    rw [R.tab]
    exact table_run (fun D hD => (hnm D hD).2.2) (fun D hD => (hnm D hD).1) hTab
  have hes3 : es.length ≤ 3 := by
    have := hTO.2
    rw [← hrows] at this
    unfold rows at this
    rwa [List.length_map] at this
  have hvl : ∀ D ∈ ds, D.v ∈ valsL := fun D hD => (hnm D hD).2.1
  repeat' ((fail_if_success (with_reducible show wpAny _ _ (getMethod (Value.ref b) _ _) _ _ _)); first | (k_unfold; (try dsimp only)) | (k_end; wrow_close) | (dsimp only; walk1) | walk1)
  refine R_gm (f := .builtin "dict.items") (T := "method_descriptor") F5 X (fun p hp => N5 p (.tail _ (.tail _ (hs3 p hp)))) R (by decide) (by k_is) (by k_is) (.inr rfl) ?_
  repeat' ((fail_if_success (with_reducible show wpAny _ _ (call (Value.builtin "dict.items") _) _ _ _)); first | (k_unfold; (try dsimp only)) | (k_end; wrow_close) | (dsimp only; walk1) | walk1)
  refine op_items F5 X (fun p hp => N5 p (.tail _ (.tail _ (hs3 p hp)))) R.S _ N5 ?_
  intro v6 h6 F6 N6 l6
  try clear F5
  repeat' ((fail_if_success (with_reducible show wpAny _ _ (call (Value.type "list") _) _ _ _)); first | (k_unfold; (try dsimp only)) | (k_end; wrow_close) | (dsimp only; walk1) | walk1)
  refine book_list (by rfl) (by ktr_room) (by ktr_units) F6 X (fun p hp => N6 p (.tail _ (.tail _ (.tail _ (hs3 p hp))))) R.S _ N6 (fun p hp => .tail _ (.tail _ (.tail _ (hs3 p hp)))) (.head _) hes3 ?_
  intro D7 h7 tk7 nw7 F7 N7 T7
  obtain ⟨as7, r7⟩ := tab_reads N7 T7
  replace N7 : News g L h7 ((tbl, W.listOf (List.toArray (tvs ++ [t])) (tn + 1)) :: (rwl, W.listOf (List.toArray rvs) rn) :: n3) := fun p hp => N7 p (List.mem_append.mpr (.inr (.tail _ hp)))
  clear T7 l6
  try clear F6
  try clear N6
  try clear N5
  dsimp only
  repeat' ((fail_if_success (with_reducible show wpAny _ _ (compareOp _ _ _) _ _ _)); first | (k_unfold; (try dsimp only)) | (k_end; wrow_close) | (dsimp only; walk1) | walk1)
  obtain ⟨as8, r8⟩ := tab_reads N7 (TabIn.mono (fun p hp => .tail _ (.tail _ hp)) hTin)
  refine SeqAt.compareNe_reads r7 r8 (by rw [hrows]; exact lay_tab (tab_ok hTO.1 hvl)) (lay_tab (tab_ok hTO.1 hvl)) (Nat.lt_of_le_of_lt (Nat.add_le_add_left (Nat.min_le_right _ _) _) (Nat.lt_of_le_of_lt (Nat.add_le_add_left (dep_tab tab) _) (by ktr_units))) ?_
  rw [eqv_tab, hrows, decide_eq_true rfl]
  clear r7 r8
  repeat' ((fail_if_success (with_reducible show wpAny _ _ (call (Value.ref 249) _) _ _ _)); first | (k_unfold; (try dsimp only)) | (k_end; wrow_close) | (dsimp only; walk1) | walk1)
  rename Fr g L _ _ => F9
  rename News g L _ _ => N9
  have hDn3 : DeedsIn n3 dl ds := hDn.mono hs3
  refine tell2_aside (hid := [(tbl, W.listOf (List.toArray (tvs ++ [t])) (tn + 1)), (rwl, W.listOf (List.toArray rvs) rn)]) (news := n3) (lone_spec w n3 dl ds u tu hDn3 (by omega)) B F9 X N9 T rfl (by decide) (by decide) ?_ ?_
  · intro p hp q hq
    rcases List.mem_cons.mp hp with rfl | hp
    · exact off3 (tbl, _) (.head _) q hq
    · rw [List.mem_singleton.mp hp]; exact off3 (rwl, _) (.tail _ (.head _)) q hq
  rintro r10 n10 h10 tk10 F10 N10 off10 ⟨hs10, sl10, sv10, sn10, rfl, hsl10, hT10⟩
  try clear F9
  try clear N9
  try clear F7
  try clear N7
  replace N10 : News g L h10 ((tbl, W.listOf (List.toArray (tvs ++ [t])) (tn + 1)) :: (rwl, W.listOf (List.toArray rvs) rn) :: n10) := N10
  repeat' ((fail_if_success (with_reducible show wpAny _ _ (compareOp _ _ _) _ _ _)); first | (k_unfold; (try dsimp only)) | (k_end; wrow_close) | (dsimp only; walk1) | walk1)
  have hin10 : ∀ p ∈ nx, p ∈ n10 := fun p hp => hs10 p (hs3 p hp)
  obtain ⟨as11, r11⟩ := seen_reads N10 (.tail _ (.tail _ (hin10 _ R.slin))) (R.seen.mono fun p hp => .tail _ (.tail _ (hin10 p (R.o2in hp))))
  obtain ⟨as12, r12⟩ := seen_reads N10 (.tail _ (.tail _ hsl10)) (hT10.mono fun p hp => .tail _ (.tail _ hp))
  have hlone := lone_run (ds := ds) (u := u) (fun D hD => (hnm D hD).2.2) ds.length (Nat.le_refl _)
  rw [hlone] at r11
  refine SeqAt.compareNe_reads r11 r12 (lay_seen (lone_ok hvl ds.length)) (lay_seen (lone_ok hvl ds.length)) (Nat.lt_of_le_of_lt (Nat.add_le_add_left (Nat.min_le_right _ _) _) (Nat.lt_of_le_of_lt (Nat.add_le_add_left (dep_seen _) _) (by ktr_units))) ?_
  rw [eqv_seen, decide_eq_true rfl]
  clear r11 r12
  repeat' ((fail_if_success (with_reducible show wpAny _ _ (eval (Expr.ListComp _ _ _ _) _) _ _ _)); first | (k_unfold; (try dsimp only)) | (k_end; wrow_close) | (dsimp only; walk1) | walk1)
  refine nest_rows F10 (by with_unfolding_all rfl) (by decide) rfl (by decide) rfl rfl rfl (by decide) (by decide) (by decide) (by decide) ?_
  repeat' ((fail_if_success (with_reducible show wpAny _ _ (getMethod (Value.ref b) _ _) _ _ _)); first | (k_unfold; (try dsimp only)) | (k_end; wrow_close) | (dsimp only; walk1) | walk1)
  refine R_gm (f := .builtin "dict.items") (T := "method_descriptor") F10 X (fun p hp => N10 p (.tail _ (.tail _ (hin10 p hp)))) R (by decide) (by k_is) (by k_is) (.inr rfl) ?_
  repeat' ((fail_if_success (with_reducible show wpAny _ _ (call (Value.builtin "dict.items") _) _ _ _)); first | (k_unfold; (try dsimp only)) | (k_end; wrow_close) | (dsimp only; walk1) | walk1)
  refine op_items F10 X (fun p hp => N10 p (.tail _ (.tail _ (hin10 p hp)))) R.S _ N10 ?_
  intro v13 h13 F13 N13 l13
  try clear F10
  try clear N10
  dsimp only
  refine ⟨v13, b, _, _, _, _, es, rfl, by rfl, F13, N13, .head _, .tail _ (.tail _ (.tail _ (hin10 _ R.S.book))), rfl, by simp, ?_, ?_, ?_, ?_⟩
  · intro i x hx
    refine ⟨entOf w x.e, by simp [hx], rfl, rfl, .tail _ (.tail _ (.tail _ (hin10 _ (R.S.list (List.mem_of_getElem? hx))))), R.S.txt _ (List.mem_of_getElem? hx)⟩
  · rw [hrows, sizeLine_eq]
    have := flat_len hTO.1 hTO.2 (by omega)
    omega
  · intro g9 n x tn tx ys nw I oI C oC D m₂ h tk E' hC hx1 hx3 F9 N9 off ne
    clear F13 N13
    repeat' (first | (k_unfold; (try dsimp only)) | (k_end; wrow_close) | (dsimp only; walk1) | walk1 | (leave1; walk_say "STEP leave1"; try dsimp only) | fail "no step")
    · assumption
    · assumption
    · rename I < _ ∧ C < _ ∧ D < _ ∧ AllLt _ nw => lt9
      rename _ ∈ (I, oI) :: (C, oC) :: (D, lst ys) :: nw => m9
      rcases List.mem_cons.mp m9 with rfl | m9
      · exact lt9.1
      · rcases List.mem_cons.mp m9 with rfl | m9
        · exact lt9.2.1
        · rcases List.mem_cons.mp m9 with rfl | m9
          · exact lt9.2.2.1
          · exact allLt lt9.2.2.2 _ m9
  · intro D h tk ys made F9 N9 off9 R9
    repeat' ((fail_if_success (with_reducible show wpAny _ _ (call (Value.builtin "list.append") _) _ _ _)); first | (k_unfold; (try dsimp only)) | (k_end; wrow_close) | (dsimp only; walk1) | walk1)
    refine app_led (sv := rvs) (sn := rn) (keep := (tbl, W.listOf (List.toArray (tvs ++ [t])) (tn + 1)) :: (D, lst ys) :: (made ++ (v13, { cls := .type "dict_items", data := .fields #[.ref b] }) :: n10)) F9 (fun p hp => N9 p ?_) ?_ (by rw [sizeLine_eq]; omega) ?_
    · rcases List.mem_cons.mp hp with rfl | hp
      · exact .tail _ (List.mem_append.mpr (.inr (.tail _ (.tail _ (.head _)))))
      rcases List.mem_cons.mp hp with rfl | hp
      · exact .tail _ (List.mem_append.mpr (.inr (.tail _ (.head _))))
      rcases List.mem_cons.mp hp with rfl | hp
      · exact .head _
      refine .tail _ ?_
      rcases List.mem_append.mp hp with hp | hp
      · exact List.mem_append.mpr (.inl hp)
      rcases List.mem_cons.mp hp with rfl | hp
      · exact List.mem_append.mpr (.inr (.head _))
      · exact List.mem_append.mpr (.inr (.tail _ (.tail _ (.tail _ hp))))
    · intro p hp
      rcases List.mem_cons.mp hp with rfl | hp
      · exact h12
      rcases List.mem_cons.mp hp with rfl | hp
      · exact (off9 _ (List.mem_append.mpr (.inr (.tail _ (.tail _ (.head _)))))).symm
      rcases List.mem_append.mp hp with hp | hp
      · exact (R9.2 p hp _ (.tail _ (.tail _ (.head _)))).symm
      rcases List.mem_cons.mp hp with rfl | hp
      · exact (Nat.ne_of_lt (l13 _ (.tail _ (.head _)))).symm
      · exact (off10 _ (.tail _ (.head _)) p hp).symm
    intro h14 F14 N14
    try clear F9
    try clear N9
    dsimp only
    have hall : ∀ p ∈ n10, p ∈ (D, lst ys) :: (made ++ (v13, ({ cls := .type "dict_items", data := .fields #[.ref b] } : Obj)) :: n10) := fun p hp => .tail _ (List.mem_append.mpr (.inr (.tail _ hp)))
    have h10u : u = 10 → (100, tabObj #[]) ∈ n10 := fun e => by
      have ph := R.ph
      rw [decide_eq_false (by omega)] at ph
      obtain ⟨o1, ho1, _⟩ := ph
      exact hin10 _ (R.o2in ((ho1 _).mpr (.tail _ (.head _))))
    have h10e : ∃ tp, (100, tabObj tp) ∈ n10 := by
      have ph := R.ph
      by_cases c : u < (ds.length : Int)
      · rw [decide_eq_true c] at ph
        obtain ⟨_, _, _, _, _, _, _, _, _, _, _, _, _, _, _, _, _, _, _, _, _, tp, hp⟩ := ph
        exact ⟨tp, hin10 _ (R.o2in hp)⟩
      · rw [decide_eq_false c] at ph
        obtain ⟨o1, ho1, _⟩ := ph
        exact ⟨_, hin10 _ (R.o2in ((ho1 _).mpr (.tail _ (.head _))))⟩
    repeat' (first | (k_unfold; (try dsimp only)) | (k_end; wrow_close) | (dsimp only; walk1) | walk1 | (leave1; walk_say "STEP leave1"; try dsimp only) | fail "no step")
    refine hq t D ys _ tab ((D, lst ys) :: (made ++ (v13, ({ cls := .type "dict_items", data := .fields #[.ref b] } : Obj)) :: n10)) (fun y => if y = Str.ofString "seen" then some (.ref sl) else if y = Str.ofString "book" then some (.ref b) else if y = Str.ofString "until" then some (.int u tu) else if y = Str.ofString "deeds" then some (.ref dl) else if y = Str.ofString "tables" then some (.ref tbl) else if y = Str.ofString "rows" then some (.ref rwl) else m₁ y)
      h14 _ hTab (TabIn.mono (fun p hp => hall p (hs10 p hp)) hTin) (.head _) ?_ (fun p hp => hall p (hin10 p (hoN p hp))) (fun p hp => off9 p (List.mem_append.mpr (.inr (.tail _ (.tail _ (.tail _ (hin10 p (hoN p hp)))))))) (fun e => hall _ (h10u e)) (h10e.elim fun tp h => ⟨tp, hall _ h⟩) ?_ (fr_three F14 ?_ ?_ ?_) ?_
    · rw [← hrows]
      exact R9.1.mono fun p hp => .tail _ (List.mem_append.mpr (.inl hp))
    · intro p hp
      rcases List.mem_cons.mp hp with rfl | hp
      · exact ⟨(off9 _ (List.mem_append.mpr (.inr (.tail _ (.head _))))).symm, (off9 _ (List.mem_append.mpr (.inr (.tail _ (.tail _ (.head _)))))).symm⟩
      rcases List.mem_append.mp hp with hp | hp
      · exact ⟨(R9.2 p hp _ (.tail _ (.head _))).symm, (R9.2 p hp _ (.tail _ (.tail _ (.head _)))).symm⟩
      rcases List.mem_cons.mp hp with rfl | hp
      · exact ⟨(Nat.ne_of_lt (l13 _ (.head _))).symm, (Nat.ne_of_lt (l13 _ (.tail _ (.head _)))).symm⟩
      · exact ⟨(off10 _ (.head _) p hp).symm, (off10 _ (.tail _ (.head _)) p hp).symm⟩
    · rfl
    · rfl
    · rfl
    · intro p hp
      refine N14 p ?_
      rcases List.mem_cons.mp hp with rfl | hp
      · exact .tail _ (.head _)
      rcases List.mem_cons.mp hp with rfl | hp
      · exact .head _
      · exact .tail _ (.tail _ hp)
end
section
open PySem PySem.W PySem.Calls
open PyProof.Rows hiding wpAt wpAt_mono wpAt_bind wpAt_stack strKind
open PySem.W.X (Mem)
set_option Elab.async false
set_option maxRecDepth 100000
set_option maxHeartbeats 2000000
set_option pp.deepTerms false
set_option pp.maxSteps 3000
open LCg LCt
section
variable {o o' : List (Addr × Obj)}
def PlainC (x : Obj) : Prop := x.cls = .type "list" ∨ x.cls = .type "tuple"
theorem TxtAt.monoC (h : ∀ p ∈ o, PlainC p.2 → p ∈ o') {v : Value} {ws : List Str} (x : TxtAt o v ws) : TxtAt o' v ws := by
  obtain ⟨a, vs, n, e, m, y⟩ := x
  exact ⟨a, vs, n, e, h _ m (.inl rfl), y⟩
theorem TRowIn.monoC (h : ∀ p ∈ o, PlainC p.2 → p ∈ o') {v : Value} {r : Str × List Str} (x : TRowIn o v r) : TRowIn o' v r := by
  obtain ⟨a, t, la, k, e, m, z⟩ := x
  exact ⟨a, t, la, k, e, h _ m (.inr rfl), z.monoC h⟩
theorem TRowsAre.monoC (h : ∀ p ∈ o, PlainC p.2 → p ∈ o') {vs : List Value} {rs : Tab} (y : TRowsAre o vs rs) : TRowsAre o' vs rs := by
  induction y with
  | nil => exact .nil
  | cons x _ ih => exact .cons (x.monoC h) ih
theorem TabIn.monoC (h : ∀ p ∈ o, PlainC p.2 → p ∈ o') {r : Value} {tab : Tab} (x : TabIn o r tab) : TabIn o' r tab := by
  obtain ⟨l, vs, n, e, m, y⟩ := x
  exact ⟨l, vs, n, e, h _ m (.inl rfl), y.monoC h⟩
theorem RowsV.monoC (h : ∀ p ∈ o, PlainC p.2 → p ∈ o') {vs : List Value} {rs : List Pr} (y : RowsV o vs rs) : RowsV o' vs rs := by
  induction y with
  | nil => exact .nil
  | cons x _ ih =>
    obtain ⟨a, t1, t2, k, e, m⟩ := x
    exact .cons ⟨a, t1, t2, k, e, h _ m (.inl rfl)⟩ ih
theorem DeedsIn.monoC (h : ∀ p ∈ o, PlainC p.2 → p ∈ o') {l : Addr} {ds : List Deed} (x : DeedsIn o l ds) : DeedsIn o' l ds := by
  obtain ⟨vs, n, m, y⟩ := x
  refine ⟨vs, n, h _ m (.inl rfl), ?_⟩
  clear m
  induction y with
  | nil => exact .nil
  | cons x _ ih =>
    obtain ⟨a, t1, t2, t3, t4, n, e, m, z⟩ := x
    exact .cons ⟨a, t1, t2, t3, t4, n, e, h _ m (.inr rfl), z⟩ ih
theorem DeedsIn.names {l : Addr} {ds : List Deed} (x : DeedsIn o l ds) : ∀ D ∈ ds, D.n ∈ namesL ∧ D.v ∈ valsL ∧ 0 ≤ D.k ∧ D.k < 6 := by
  obtain ⟨vs, n, m, y⟩ := x
  clear m
  induction y with
  | nil => exact fun D hD => nomatch hD
  | cons x _ ih =>
    obtain ⟨a, t1, t2, t3, t4, n, e, m, z⟩ := x
    intro D hD
    rcases List.mem_cons.mp hD with rfl | hD
    · exact z
    · exact ih D hD
noncomputable def offA (x : Addr) (o : List (Addr × Obj)) : List (Addr × Obj) := o.filter fun p => decide (p.1 ≠ x)
theorem offA_ne {x : Addr} : ∀ p ∈ offA x o, p.1 ≠ x := fun _ hp => of_decide_eq_true (List.mem_filter.mp hp).2
theorem offA_sub {x : Addr} : ∀ p ∈ offA x o, p ∈ o := fun _ hp => (List.mem_filter.mp hp).1
theorem offA_mem {x : Addr} : ∀ p ∈ o, p.1 ≠ x → p ∈ offA x o := fun _ hp h => List.mem_filter.mpr ⟨hp, decide_eq_true h⟩
theorem offA_in {g h : Heap} {L x : Addr} {ob : Obj} (N : News g L h o) (h1 : (x, ob) ∈ o) (hc : ¬ PlainC ob) : ∀ p ∈ o, PlainC p.2 → p ∈ offA x o := fun p hp hc' => by
  refine offA_mem p hp fun e => hc ?_
  obtain ⟨a, b⟩ := p
  cases e
  have := (N _ hp).1.symm.trans (N _ h1).1
  cases this
  exact hc'
theorem News.offA {g h : Heap} {L x : Addr} (N : News g L h o) : News g L h (Mine.offA x o) := fun p hp => N p (offA_sub p hp)
theorem RowsV.ref {vs : List Value} {rs : List Pr} (y : RowsV o vs rs) : ∀ v ∈ vs, ∃ a, v = .ref a := by
  induction y with
  | nil => exact fun v hv => nomatch hv
  | cons x _ ih =>
    obtain ⟨a, t1, t2, k, e, m⟩ := x
    intro v hv
    rcases List.mem_cons.mp hv with rfl | hv
    · exact ⟨a, e⟩
    · exact ih v hv
theorem RowsV.offA {g h : Heap} {L x : Addr} {us vs : List Value} {n : Nat} {xs rs : List Pr} (N : News g L h o) (h1 : (x, listOf us.toArray n) ∈ o) (z : RowsV o' us xs) (y : RowsV o vs rs) : RowsV (Mine.offA x o) vs rs := by
  induction y with
  | nil => exact .nil
  | cons y _ ih =>
    obtain ⟨a, t1, t2, k, e, m⟩ := y
    refine .cons ⟨a, t1, t2, k, e, offA_mem _ m fun e' => ?_⟩ ih
    cases e'
    have := (N _ m).1.symm.trans (N _ h1).1
    have e2 := congrArg Obj.data (Option.some.inj this)
    injection e2 with e3 _
    have e4 := congrArg Array.toList e3
    simp only [List.toList_toArray] at e4
    obtain ⟨b, hb⟩ := z.ref _ (by rw [← e4]; exact .head _)
    cases hb
end
theorem law_loop (w : World) {mean : ExcName → Option Value} {mg mb : Str → Option Value} {fa : Addr} {g : Heap} {L : Addr} {m₁ : Str → Option Value} {s : Shared} {Q : Flow → Shared → Prop} {E : Value → Shared → Prop} {bod : List Stmt} {sco : Scope} {cdv : Value}
    {dl tbl rwl ax : Addr} {ds : List Deed} {u : Int} {t10 tu : Tok} {o : List (Addr × Obj)} (hD : DeedsIn o dl ds) (hlen : ds.length = 10) (hu0 : 0 ≤ u) (hnm : ∀ D ∈ ds, D.n ∈ namesL ∧ D.v ∈ valsL ∧ 0 ≤ D.k ∧ D.k < 6)
    (B : Below callerA g [] g) (X : (hd.heap_1 w.params).In g) (T : Top topProg lo mean mg mb g) (hP : lawP (hd.heap_1 w.params) = some (bod, sco))
    (F : Fr g L s.heap (fun y => if y = Str.ofString "rows" then some (.ref rwl) else if y = Str.ofString "tables" then some (.ref tbl) else if y = Str.ofString "deeds" then some (.ref dl) else m₁ y))
    (N : News g L s.heap ((ax, listOf #[.int 10 t10, .int u tu] 0) :: (rwl, listOf #[] 0) :: (tbl, listOf #[] 0) :: (100, tabObj #[]) :: o)) (h12 : tbl < rwl) (h13 : rwl < ax) (h1 : 100 < tbl) (ho : ∀ p ∈ o, p.1 < tbl) (h100 : ∀ p ∈ o, p.1 ≠ 100)
    (hq : ∀ (t1 t2 : Value) (r1 r2 : Addr) (ws1 ws2 : List Value) (c1 c2 n1 n2 : Nat) (tab1 tab2 : Tab) (o' : List (Addr × Obj)) (m' : Str → Option Value) (h' : Heap) (tk' : Nat), TableS ds 10 tab1 → TabIn o' t1 tab1 → (r1, listOf (List.toArray ws1) c1) ∈ o' → RowsV o' ws1 (flat tab1) →
      TableS ds u tab2 → TabIn o' t2 tab2 → (r2, listOf (List.toArray ws2) c2) ∈ o' → RowsV o' ws2 (flat tab2) → (∃ tp, (100, tabObj tp) ∈ o') → r1 ≠ r2 → (∀ p ∈ o', p.1 ≠ tbl ∧ p.1 ≠ rwl) →
      Fr g L h' (fun y => if y = Str.ofString "deeds" then some (.ref dl) else if y = Str.ofString "tables" then some (.ref tbl) else if y = Str.ofString "rows" then some (.ref rwl) else m' y) →
      News g L h' ((tbl, listOf (List.toArray [t1, t2]) n1) :: (rwl, listOf (List.toArray [.ref r1, .ref r2]) n2) :: o') → Q .next { s with heap := h', toks := tk' }) :
    wpAny (model PySem.Challenge.rw_in0186_01.row.prog w) (callerA.deeper (envOf (Str.ofString "law") sco L fa cdv)) (pyIter (.ref ax)) (fun it s₂ => LoopAtV PySem.Challenge.rw_in0186_01.row.prog w (callerA.deeper (envOf (Str.ofString "law") sco L fa cdv)) g (envOf (Str.ofString "law") sco L fa cdv) (Str.ofString "until") bod Q E it s₂) E s := by
  refine iter_listUnr (vs := [_, _]) (by rfl) F N (.head _) rfl rfl ?_
  intro I lI
  clear F N
  have itne : ∀ it : Obj, it.cls = .type "list_iterator" → ¬ PlainC it := fun it e h => by
    rcases h with h | h <;> rw [e] at h <;> exact absurd h (by decide)
  have I1 : tbl ≠ I := Nat.ne_of_lt (lI _ (.tail _ (.tail _ (.head _))))
  have I2 : rwl ≠ I := Nat.ne_of_lt (lI _ (.tail _ (.head _)))
  have I3 : (100 : Nat) ≠ I := Nat.ne_of_lt (lI _ (.tail _ (.tail _ (.tail _ (.head _)))))
  refine ListRest.succ fun it h5 tk5 hit F5 N5 => ?_
  have off1 : ∀ p ∈ (I, it) :: (ax, listOf #[.int 10 t10, .int u tu] 0) :: o, p.1 ≠ tbl ∧ p.1 ≠ rwl ∧ p.1 ≠ 100 := fun p hp => by
    rcases List.mem_cons.mp hp with rfl | hp
    · exact ⟨I1.symm, I2.symm, I3.symm⟩
    rcases List.mem_cons.mp hp with rfl | hp
    · exact ⟨Nat.ne_of_gt (Nat.lt_trans h12 h13), Nat.ne_of_gt h13, Nat.ne_of_gt (Nat.lt_trans h1 (Nat.lt_trans h12 h13))⟩
    · exact ⟨Nat.ne_of_lt (ho p hp), Nat.ne_of_lt (Nat.lt_trans (ho p hp) h12), h100 p hp⟩
  refine law_turn w (ds := ds) (dl := dl) (tbl := tbl) (rwl := rwl) (u := 10) (tvs := []) (rvs := []) (tn := 0) (rn := 0) (o := (I, it) :: (ax, listOf #[.int 10 t10, .int u tu] 0) :: o) (hD.mono fun p hp => .tail _ (.tail _ hp)) hlen (by decide) hnm B X T hP
    (fr_pin (fr_three F5 (by rfl) (by rfl) (by rfl)) (by rfl)) (fun p hp => N5 p ?_) (Nat.ne_of_lt h12) ?_ ?_ (fun p hp => (off1 p hp).2.2) (by simp) (by simp) ?_
  · rcases List.mem_cons.mp hp with rfl | hp
    · exact .tail _ (.tail _ (.tail _ (.head _)))
    rcases List.mem_cons.mp hp with rfl | hp
    · exact .tail _ (.tail _ (.head _))
    rcases List.mem_cons.mp hp with rfl | hp
    · exact .tail _ (.tail _ (.tail _ (.tail _ (.head _))))
    rcases List.mem_cons.mp hp with rfl | hp
    · exact .head _
    rcases List.mem_cons.mp hp with rfl | hp
    · exact .tail _ (.head _)
    · exact .tail _ (.tail _ (.tail _ (.tail _ (.tail _ hp))))
  · intro p hp
    rcases List.mem_cons.mp hp with rfl | hp
    · exact Nat.ne_of_lt h1
    · exact (off1 p hp).1
  · intro p hp
    rcases List.mem_cons.mp hp with rfl | hp
    · exact Nat.ne_of_lt (Nat.lt_trans h1 h12)
    · exact (off1 p hp).2.1
  intro t1 r1 ws1 c1 tab1 o2 m2 h6 tk6 a1 a2 a3 a4 a5 a6 a7 a7e a8 F6 N6
  have P6 := offA_in (ob := it) (x := I) (fun p hp => N6 p (.tail _ (.tail _ hp))) (a5 _ (.head _)) (itne it hit)
  have b2 := a2.monoC P6
  have b3 := P6 _ a3 (.inl rfl)
  have b4 := a4.monoC P6
  have bD := (DeedsIn.mono (fun p hp => a5 p (.tail _ (.tail _ hp))) hD).monoC P6
  have b7 : (100, tabObj #[]) ∈ offA I o2 := offA_mem _ (a7 rfl) I3
  have b9 := P6 _ (a5 _ (.tail _ (.head _))) (.inl rfl)
  have bl : (ax, listOf #[.int 10 t10, .int u tu] 0) ∈ offA I o2 := b9
  have b8 : ∀ p ∈ offA I o2, p.1 ≠ tbl ∧ p.1 ≠ rwl := fun p hp => a8 p (offA_sub p hp)
  have bI : ∀ p ∈ offA I o2, p.1 ≠ I := offA_ne
  refine UnrEnd.intro F6 N6 ((tbl, listOf (List.toArray ([] ++ [t1])) (0 + 1)) :: (rwl, listOf (List.toArray ([] ++ [.ref r1])) (0 + 1)) :: offA I o2) ?_ ?_ ⟨.tail _ (.tail _ bl), ?_⟩
  · intro p hp
    rcases List.mem_cons.mp hp with rfl | hp
    · exact .tail _ (.tail _ (a5 _ (.head _)))
    rcases List.mem_cons.mp hp with rfl | hp
    · exact .head _
    rcases List.mem_cons.mp hp with rfl | hp
    · exact .tail _ (.head _)
    · exact .tail _ (.tail _ (offA_sub p hp))
  · intro p hp
    rcases List.mem_cons.mp hp with rfl | hp
    · exact I1
    rcases List.mem_cons.mp hp with rfl | hp
    · exact I2
    · exact bI p hp
  generalize offA I o2 = o3 at *
  clear N6 F6 N5 F5 a2 a3 a4 a5 a6 a7 a7e a8 P6
  refine ListRest.succ fun it2 h7 tk7 hit2 F7 N7 => ?_
  have P7 := offA_in (ob := tabObj #[]) (x := 100) (fun p hp => N7 p (.tail _ (.tail _ (.tail _ hp)))) b7 (fun h => by rcases h with h | h <;> cases h)
  have c2 := b2.monoC P7
  have c3 := P7 _ b3 (.inl rfl)
  have c4 := b4.monoC P7
  have cD := bD.monoC P7
  have cl := P7 _ bl (.inl rfl)
  have c8 : ∀ p ∈ offA 100 o3, p.1 ≠ tbl ∧ p.1 ≠ rwl := fun p hp => b8 p (offA_sub p hp)
  have cI : ∀ p ∈ offA 100 o3, p.1 ≠ I := fun p hp => bI p (offA_sub p hp)
  have c1 : ∀ p ∈ offA 100 o3, p.1 ≠ 100 := offA_ne
  have c5 : ∀ p ∈ offA 100 o3, p ∈ o3 := offA_sub
  generalize offA 100 o3 = o4 at *
  clear P7
  have off2 : ∀ p ∈ (I, it2) :: o4, p.1 ≠ tbl ∧ p.1 ≠ rwl ∧ p.1 ≠ 100 := fun p hp => by
    rcases List.mem_cons.mp hp with rfl | hp
    · exact ⟨I1.symm, I2.symm, I3.symm⟩
    · exact ⟨(c8 p hp).1, (c8 p hp).2, c1 p hp⟩
  refine law_turn w (ds := ds) (dl := dl) (tbl := tbl) (rwl := rwl) (u := u) (tvs := [] ++ [t1]) (rvs := [] ++ [.ref r1]) (tn := 0 + 1) (rn := 0 + 1) (o := (I, it2) :: o4) (cD.mono fun p hp => .tail _ hp) hlen hu0 hnm B X T hP
    (fr_pin (fr_three F7 (by rfl) (by rfl) (by rfl)) (by rfl)) (fun p hp => N7 p ?_) (Nat.ne_of_lt h12) ?_ ?_ (fun p hp => (off2 p hp).2.2) (by simp) (by simp) ?_
  · rcases List.mem_cons.mp hp with rfl | hp
    · exact .tail _ (.head _)
    rcases List.mem_cons.mp hp with rfl | hp
    · exact .tail _ (.tail _ (.head _))
    rcases List.mem_cons.mp hp with rfl | hp
    · exact .tail _ (.tail _ (.tail _ b7))
    rcases List.mem_cons.mp hp with rfl | hp
    · exact .head _
    · exact .tail _ (.tail _ (.tail _ (c5 p hp)))
  · intro p hp
    rcases List.mem_cons.mp hp with rfl | hp
    · exact Nat.ne_of_lt h1
    · exact (off2 p hp).1
  · intro p hp
    rcases List.mem_cons.mp hp with rfl | hp
    · exact Nat.ne_of_lt (Nat.lt_trans h1 h12)
    · exact (off2 p hp).2.1
  intro t2 r2 ws2 c22 tab2 o5 m5 h8 tk8 d1 d2 d3 d4 d5 d6 d7 d7e d8 F8 N8
  have P8 := offA_in (ob := it2) (x := I) (fun p hp => N8 p (.tail _ (.tail _ hp))) (d5 _ (.head _)) (itne it2 hit2)
  have hlo := P8 _ (d5 _ (.tail _ cl)) (.inl rfl)
  have e5 : ∀ p ∈ o4, p ∈ o5 := fun p hp => d5 p (.tail _ hp)
  refine UnrEnd.intro F8 N8 ((tbl, listOf (List.toArray ([] ++ [t1] ++ [t2])) (0 + 1 + 1)) :: (rwl, listOf (List.toArray ([] ++ [.ref r1] ++ [.ref r2])) (0 + 1 + 1)) :: offA I o5) ?_ ?_ ⟨.tail _ (.tail _ hlo), ?_⟩
  · intro p hp
    rcases List.mem_cons.mp hp with rfl | hp
    · exact .tail _ (.tail _ (d5 _ (.head _)))
    rcases List.mem_cons.mp hp with rfl | hp
    · exact .head _
    rcases List.mem_cons.mp hp with rfl | hp
    · exact .tail _ (.head _)
    · exact .tail _ (.tail _ (offA_sub p hp))
  · intro p hp
    rcases List.mem_cons.mp hp with rfl | hp
    · exact I1
    rcases List.mem_cons.mp hp with rfl | hp
    · exact I2
    · exact offA_ne p hp
  refine ListRest.zero fun h9 tk9 F9 N9 => ?_
  exact hq t1 t2 r1 r2 ws1 ws2 _ _ _ _ tab1 tab2 (offA I o5) m5 h9 tk9 a1 ((TabIn.mono e5 c2).monoC P8) (P8 _ (e5 _ c3) (.inl rfl)) ((c4.mono e5).monoC P8) d1 (d2.monoC P8) (P8 _ d3 (.inl rfl)) (d4.monoC P8) (d7e.elim fun tp h => ⟨tp, offA_mem _ h I3⟩)
    (d6 _ (.tail _ c3)) (fun p hp => d8 p (offA_sub p hp)) F9 N9
end
section
open PySem PySem.W PySem.Calls
open PyProof.Rows hiding wpAt wpAt_mono wpAt_bind wpAt_stack strKind
open PySem.W.X (Mem)
set_option Elab.async false
set_option maxRecDepth 100000
set_option maxHeartbeats 2000000
set_option pp.deepTerms false
set_option pp.maxSteps 3000
open LCg LCt
local macro_rules | `(tactic| k_all) => `(tactic| assumption)
local macro_rules | `(tactic| bits_by_make) => `(tactic| first | assumption | exact List.Mem.head _ | (refine List.Mem.tail _ ?_; bits_by_make))
local macro_rules | `(tactic| walk_at "subscriptTail") => `(tactic| (k_here; (with_reducible show wpAny _ _ (subscriptTail _ (PySem.Expr.Slice _ _ (some _) _) (Value.ref _) (Value.ref _)) _ _ _); (refine' kmk_slice3_lit (its := List.toArray _) (zs := Array.toList _) ?F ?N ?l ?p ?q ?r ?z0 ?e ?_ ?s ?t ?z; (case F => k_asm); (case N => k_asm); (case l => exact Fr.lst (by k_asm) (by assumption)); (case p => exact IsPart.int _ _); (case q => exact IsPart.none); (case r => exact IsPart.int _ _); (case z0 => decide); (case e => exact rfl); (case s => with_unfolding_all rfl); (case t => kmk_pure); (case z => (rw [sizeLine_eq, List.size_toArray]; omega))); intro D' h' F' N' l1'))
local macro_rules | `(tactic| walk_at "subscriptTail") => `(tactic| (k_here; (with_reducible show wpAny _ _ (subscriptTail (Expr.List (Expr.Constant (Const.str _) _ _ :: _) _) _ (Value.ref _) (Value.int _ _)) _ _ _); (refine' kba_turn (value' := .Name PySem.Str.empty ⟨0, 0, 0, 0⟩) (fun _ => rfl) ?_); (refine' item_menu ?l ?w ?a ?b ?c 3 ?k ?_; (case l => exact News.isL (by k_asm) (.head _)); (case w => repeat constructor); (case a => exact fm_lo _ (by decide)); (case b => exact fm_hi _ (by decide)); (case c => exact Int.lt_trans (fm_hi _ (by decide)) (by decide)); (case k => decide +kernel)); intro xb tb hxb hsb))
theorem deed_new {h₀ h : Heap} {L tp : Addr} {n v : Str} {k p : Int} {t1 t2 t3 t4 : Tok} {nn : Nat} {r : List (Addr × Obj)} (_ : News h₀ L h ((tp, ({ cls := .type "tuple", data := .seq #[.str n t1, .int k t2, .str v t3, .int p t4] nn } : Obj)) :: r)) (hn : n ∈ namesL) (hv : v ∈ valsL) (h0 : 0 ≤ k) (h6 : k < 6) :
    ∃ ob De, ({ cls := .type "tuple", data := .seq #[.str n t1, .int k t2, .str v t3, .int p t4] nn } : Obj) = ob ∧ ∀ o, DeedIn ((tp, ob) :: o) (.ref tp) De :=
  ⟨_, ⟨n, k, v, p⟩, rfl, fun _ => ⟨tp, t1, t2, t3, t4, nn, rfl, .head _, hn, hv, h0, h6⟩⟩
theorem DeedsAre.snoc {o : List (Addr × Obj)} {vs : List Value} {ds : List Deed} {v : Value} {D : Deed} (y : DeedsAre o vs ds) (x : DeedIn o v D) : DeedsAre o (vs ++ [v]) (ds ++ [D]) := by
  induction y with
  | nil => exact .cons x .nil
  | cons z _ ih => exact .cons z ih
def DeedsJ (dl sa : Addr) (rest : List (Addr × Obj)) (i : Nat) (m : Str → Option Value) (nx : List (Addr × Obj)) : Prop :=
  ∃ dvs dn ds o2, nx = (dl, listOf (List.toArray dvs) dn) :: o2 ∧ (∀ p ∈ o2, p.1 ≠ dl) ∧ (∀ p ∈ rest, p ∈ o2) ∧ DeedsAre o2 dvs ds ∧ ds.length = i ∧ m (Str.ofString "script") = some (.ref sa) ∧ m (Str.ofString "deeds") = some (.ref dl)
theorem deeds_call (w : World) {mean : ExcName → Option Value} {mg mb : Str → Option Value} {dp un : Nat} {gd : Option (List Code)} {cn : Str} {cs : Scope} {a : Addr} {ccd : Value} {cl : List (Str × Addr)} {outer : List Env} {A₀ : Around} {base h₀ : Heap} {L : Addr} {m : Str → Option Value} {s : Shared} {Q E : Value → Shared → Prop} {rest : List (Addr × Obj)}
    {sa : Addr} {vs : List Value} {ns : List Int} (B : Below A₀ base outer h₀) (F : Fr h₀ L s.heap m) (X : (hd.heap_1 w.params).In h₀) (N : News h₀ L s.heap rest) (T : Top topProg lo mean mg mb h₀) (hk : cs.kind = .function) (hdp : dp ≤ 600) (hun : un ≤ 6000)
    (hl : h₀.IsList sa vs.toArray) (hi : IntsAre vs ns) (hlen : ns.length ≤ 63)
    (hret : ∀ h' tk' dl ds news', Fr h₀ L h' m → News h₀ L h' news' → (∀ p ∈ rest, p ∈ news') → DeedsIn news' dl ds → ds.length = 10 → Q (.ref dl) { s with heap := h', toks := tk' }) :
    wpAny (model PySem.Challenge.rw_in0186_01.row.prog w) (ktrTop dp un gd cn cs L a ccd cl outer) (call (.ref 220) [.ref sa]) Q E s := by
  have hvl := hi.length
  revert X; k_fill; intro X
  refine wpAny_call ?_
  k_dflt (refine' code_def2 (binds := [(Str.ofString "script", .ref sa)]) ?k1 ?k2 ?k3 ?k4 ?k5 ?kA ?kF ?kK ?k6 ?k7 ?k8 ?k9 ?kB ?_ ?c2 ?c3 ?c4 ?c5; (case kA => exact rfl); (case kF => exact rfl); (case kK => first | assumption | exact rfl); (case k1 => k_asm); (case k2 => k_asm); (case k3 => k_asm); (case k4 => k_asm); (case k5 => k_asm); (case k6 => k_is); (case k7 => k_is); (case k8 => ktr_room); (case k9 => first | exact BindsTo.of_eq rfl | exact binds_K (by k_in) rfl (by k_is) rfl rfl rfl); (case c5 => decide); (case kB => exact locs rfl); (case c2 => exact rfl); (case c3 => exact rfl); (case c4 => exact rfl); k_whole; intro g' L' h' hG' FG' F' N' B' X' T'; (try dsimp only); (try k_fold))
  repeat' ((fail_if_success (with_reducible show wpAny _ _ (exec (Stmt.For _ _ _ _ _) _) _ _ _)); first | (k_unfold; (try dsimp only)) | (k_end; wrow_close) | (dsimp only; walk1) | walk1)
  have hls : g'.IsList sa vs.toArray := hl.at fun o e => FG'.keep sa o e
  refine For_invV g' (by rfl) (by rfl) ?_ (by intro _; rfl) (by first | passes_own | with_unfolding_all passes_own)
  repeat' ((fail_if_success (with_reducible show wpAny _ _ (pyIter (Value.ref _)) _ _ _)); first | (k_unfold; (try dsimp only)) | (k_end; wrow_close) | (dsimp only; walk1) | walk1)
  rename IsRange _ _ _ _ _ _ _ _ => hR
  rename Fr g' L' _ _ => FF
  rename News g' L' _ ((_, W.listOf #[] 0) :: rest) => NN
  rename (∀ p ∈ rest, Prod.fst p < _) => lsl
  refine loop_range (n := 10) (news := _ :: rest) (DeedsJ _ sa rest) (by rfl) hR (by rfl) (by rfl) FF NN ⟨[], 0, [], rest, rfl, fun p hp => Nat.ne_of_lt (lsl p hp), fun p hp => hp, .nil, rfl, rfl, rfl⟩ ?_ ?_
  · intro i ti m₁ nx h tk own hi' hoff hJ F1 N1
    obtain ⟨dvs, dn, ds, o2, rfl, hap, hrs, hDs, hdl, ms, md⟩ := hJ
    obtain ⟨dl, edl, edl2⟩ : ∃ x : Addr, m₁ (Str.ofString "deeds") = some (.ref x) ∧ Value.ref x = Value.ref x := ⟨_, md, rfl⟩
    have edl3 := (Value.ref.inj (Option.some.inj (md.symm.trans edl))).symm
    subst edl3
    have F2 := fr_pin2 F1 md
    have F3 := fr_pin2 F2 (x := Str.ofString "script") (by rw [if_neg (by decide)]; exact ms)
    replace F3 : Fr g' L' h _ := F3
    replace N1 : News g' L' h ((dl, W.listOf (List.toArray dvs) dn) :: (o2 ++ own)) := N1
    clear F1 F2 FF NN hret N hR
    repeat' ((fail_if_success (with_reducible show wpAny _ _ (subscriptTail (Expr.Name _ _) (Expr.Slice _ _ _ _) _ _) _ _ _)); first | (k_unfold; (try dsimp only)) | (k_end; wrow_close) | (dsimp only; walk1) | walk1)
    rename Fr g' L' _ _ => F4
    rename News g' L' _ _ => N4
    refine kmk_slice3_lit (its := vs.toArray) (lo := some (i : Int)) (hi := none) (st := some 10) (zs := (slicePick vs.toArray (some (i : Int)) none (some 10)).toList) F4 N4 (hls.at fun o e => F4.keep sa o e) (IsPart.int _ _) IsPart.none (IsPart.int _ _) (by decide) rfl ?_ (by with_unfolding_all rfl) (by intro _; rfl) (by rw [sizeLine_eq, List.size_toArray]; omega)
    intro D5 h5 F5 N5 l5
    clear F4 N4
    dsimp only
    repeat' ((fail_if_success (with_reducible show wpAny _ _ (call (Value.builtin "sum") _) _ _ _)); first | (k_unfold; (try dsimp only)) | (k_end; wrow_close) | (dsimp only; walk1) | walk1)
    refine sumK (by rfl) F5 N5 ⟨_, (N5 _ (.head _)).1, rfl, _, rfl⟩ (hi.pick (some (i : Int)) none (some 10)) ?_
    intro h7 tk7 t7 F7 N7
    clear F5 N5
    generalize (pickNums ns (some (i : Int)) none (some 10)).sum = sm
    dsimp only
    repeat' ((fail_if_success (with_reducible show wpAny _ _ (call (Value.builtin "list.append") _) _ _ _)); first | (k_unfold; (try dsimp only)) | (k_end; wrow_close) | (dsimp only; walk1) | walk1)
    rename Fr g' L' _ _ => F9
    rename News g' L' _ _ => N9
    obtain ⟨tp, htp⟩ := nm_head N9
    subst htp
    obtain ⟨ob, De, hob, hDe⟩ := deed_new N9 (by assumption) (by assumption) (Int.fmod_nonneg_of_pos _ (by decide)) (Int.fmod_lt_of_pos _ (by decide))
    rw [hob] at N9
    rename _ < tp ∧ _ => lE
    have lE2 := allLt lE.2.2.2.2.2
    have hdlt : dl < tp := lE.2.2.2.2.1
    refine app_led (sv := dvs) (sn := dn) (keep := (tp, ob) :: (o2 ++ own)) F9 (fun p hp => N9 p ?_) ?_ (by have := hDs.length; rw [sizeLine_eq]; omega) ?_
    · rcases List.mem_cons.mp hp with rfl | hp
      · exact .tail _ (.tail _ (.tail _ (.tail _ (.tail _ (.head _)))))
      · rcases List.mem_cons.mp hp with rfl | hp
        · exact .head _
        · exact .tail _ (.tail _ (.tail _ (.tail _ (.tail _ (.tail _ hp)))))
    · intro p hp
      rcases List.mem_cons.mp hp with rfl | hp
      · exact (Nat.ne_of_lt hdlt).symm
      · rcases List.mem_append.mp hp with hp | hp
        · exact hap p hp
        · exact hoff p hp _ (.head _)
    intro h10 F10 N10
    clear F9 N9
    repeat' ((fail_if_success (with_reducible show InvPostG _ _ _ _ _ _ _ _)); first | (k_unfold; (try dsimp only)) | (k_end; wrow_close) | (dsimp only; walk1) | walk1)
    refine ⟨_, _, _, _, (dl, W.listOf (List.toArray (dvs ++ [Value.ref tp])) (dn + 1)) :: ((tp, ob) :: o2), rfl, F10, N10, ?_, fun p hp => .tail _ (.tail _ (List.mem_append.mpr (.inr hp))), ?_, dvs ++ [Value.ref tp], dn + 1, ds ++ [De], _, rfl, ?_, (fun p hp => .tail _ (hrs p hp)), (DeedsAre.mono (fun p hp => .tail _ hp) hDs).snoc (hDe _), ?_, rfl, rfl⟩
    · intro p hp
      rcases List.mem_cons.mp hp with rfl | hp
      · exact .head _
      · rcases List.mem_cons.mp hp with rfl | hp
        · exact .tail _ (.head _)
        · exact .tail _ (.tail _ (List.mem_append.mpr (.inl hp)))
    · intro p hp b hb
      obtain ⟨q, hq, rfl⟩ := List.mem_map.mp hb
      rcases List.mem_cons.mp hq with rfl | hq
      · exact hoff p hp _ (.head _)
      · rcases List.mem_cons.mp hq with rfl | hq
        · exact Nat.ne_of_lt (lE2 p (List.mem_append.mpr (.inr hp)))
        · exact hoff p hp _ (List.mem_map.mpr ⟨q, .tail _ hq, rfl⟩)
    · intro p hp
      rcases List.mem_cons.mp hp with rfl | hp
      · exact (Nat.ne_of_lt hdlt).symm
      · exact hap p hp
    · rw [List.length_append, List.length_singleton, hdl]
  · intro m₁ nx h tk hJ F1 N1
    obtain ⟨dvs, dn, ds, o2, rfl, hap, hrs, hDs, hdl, ms, md⟩ := hJ
    have F4 := fr_pin F1 md
    clear FF NN N hR F1
    repeat' (first | (k_unfold; (try dsimp only)) | (k_end; wrow_close) | (dsimp only; walk1) | walk1 | (leave1; walk_say "STEP leave1"; try dsimp only) | fail "no step")
    rename Fr h₀ L _ m => kF
    rename News h₀ L _ _ => kN
    exact hret _ _ _ ds _ kF kN (fun p hp => .tail _ (hrs p hp)) ⟨dvs, dn, .head _, hDs.mono fun p hp => .tail _ hp⟩ hdl
end
section
open PySem PySem.W PySem.Calls
open PyProof.Rows hiding wpAt wpAt_mono wpAt_bind wpAt_stack strKind
open PySem.W.X (Mem)
set_option Elab.async false
set_option maxRecDepth 100000
set_option maxHeartbeats 2000000
set_option pp.deepTerms false
set_option pp.maxSteps 3000
open LCg LCt PyProof.Rows
theorem diffR_cons (x : Pr) (r a : List Pr) : diffR (x :: r) a = if x ∈ a then diffR r (a.erase x) else (x :: (diffR r a).1, (diffR r a).2) := by rw [diffR]
def DiffJ (ea aa ml L : Addr) (oL : Obj) (env : Env) (rest : List (Addr × Obj)) (es as : List Pr) (n : Nat) (m : Str → Option Value) (nx : List (Addr × Obj)) : Prop :=
  ∃ evs avs mvs en an mn ers ars mrs sl, nx = ((ea, listOf (List.toArray evs) en) :: (aa, listOf (List.toArray avs) an) :: (ml, listOf (List.toArray mvs) mn) :: rest) ++ [(L, ({ oL with slots := sl } : Obj))] ∧ TI.Frs [env] [(L, ({ oL with slots := sl } : Obj))] ∧ RowsV rest evs ers ∧ RowsV rest avs ars ∧ RowsV rest mvs mrs ∧ evs.length = n ∧
    diffR es.reverse as = (mrs ++ (diffR ers.reverse ars).1, (diffR ers.reverse ars).2) ∧ (∀ r ∈ ers, okP r) ∧ (∀ r ∈ ars, okP r) ∧ evs.length + mvs.length ≤ es.length ∧ avs.length ≤ as.length ∧
    m (Str.ofString "expected") = some (.ref ea) ∧ m (Str.ofString "actual") = some (.ref aa) ∧ m (Str.ofString "missing") = some (.ref ml)
theorem diff_call (w : World) {mean : ExcName → Option Value} {mg mb : Str → Option Value} {cn : Str} {cs : Scope} {a : Addr} {ccd : Value} {h₀ : Heap} {L : Addr} {m : Str → Option Value} {s : Shared} {Q E : Value → Shared → Prop}
    {rest : List (Addr × Obj)} {ea aa : Addr} {evs avs : List Value} {en an : Nat} {es as : List Pr} (F : Fr h₀ L s.heap m) (X : (hd.heap_1 w.params).In h₀) (N : News h₀ L s.heap ((ea, listOf (List.toArray evs) en) :: (aa, listOf (List.toArray avs) an) :: rest)) (T : Top topProg lo mean mg mb h₀) (hck : cs.kind = .function)
    (hne : ea ≠ aa) (he : ∀ p ∈ rest, p.1 ≠ ea) (ha : ∀ p ∈ rest, p.1 ≠ aa) (hE : RowsV rest evs es) (hA : RowsV rest avs as) (oE : ∀ r ∈ es, okP r) (oA : ∀ r ∈ as, okP r) (lE : es.length ≤ 1000) (lA : as.length ≤ 1000)
    (hq : ∀ h' tk' tup ml mvs mn avs' an', Fr h₀ L h' m → News h₀ L h' ((tup, ({ cls := .type "tuple", data := .seq #[.ref ml, .ref aa] } : Obj)) :: (aa, listOf (List.toArray avs') an') :: (ml, listOf (List.toArray mvs) mn) :: rest) → RowsV rest mvs (diffR es.reverse as).1 → RowsV rest avs' (diffR es.reverse as).2 → Q (.ref tup) { s with heap := h', toks := tk' }) :
    wpAny (model PySem.Challenge.rw_in0186_01.row.prog w) (callerA.deeper (envOf cn cs L a ccd)) (call (.ref 213) [.ref ea, .ref aa]) Q E s := by
  revert X; k_fill; intro X
  refine wpAny_call ?_
  refine TLgL.code_def F X N T (by rfl) (by k_is) (by k_is) (by k_room) (BindsTo.of_eq (binds := [(Str.ofString "expected", .ref ea), (Str.ofString "actual", .ref aa)]) rfl) (locs rfl) ?_ hck
  intro oL h' tiC tiF tiE F' N'
  have hs0 : ∀ p ∈ (ea, W.listOf (List.toArray evs) en) :: (aa, W.listOf (List.toArray avs) an) :: rest, p.1 < s.heap.objs.size := fun p hp => Heap.lt_size (N p hp).1
  have hL0 : L < s.heap.objs.size := F.ns.lt
  clear F N
  dsimp only at F' N' ⊢
  generalize s.heap.objs.size = L' at *
  repeat' ((fail_if_success (with_reducible show wpAny _ _ (exec (Stmt.While _ _ _ _) _) _ _ _)); first | (k_unfold; (try dsimp only)) | (k_end; wrow_close) | (dsimp only; walk1) | walk1)
  rename Fr h₀ L' _ _ => FF
  rename News h₀ L' _ _ => NN
  rename (∀ p ∈ (ea, _) :: (aa, _) :: rest ++ _, Prod.fst p < _) => lsl
  obtain ⟨ml, hml⟩ := nm_head NN
  subst hml
  have hea : ea ≠ ml := Nat.ne_of_lt (lsl _ (.head _))
  have haa : aa ≠ ml := Nat.ne_of_lt (lsl _ (.tail _ (.head _)))
  have hrm : ∀ p ∈ rest, p.1 ≠ ml := fun p hp => Nat.ne_of_lt (lsl _ (.tail _ (.tail _ (List.mem_append.mpr (.inl hp)))))
  have hLm : L ≠ ml := Nat.ne_of_lt (lsl (L, oL) (List.mem_append.mpr (.inr (.head _))))
  have heL : ea ≠ L := tiE _ (.head _)
  have haL : aa ≠ L := tiE _ (.tail _ (.head _))
  have hrL : ∀ p ∈ rest, p.1 ≠ L := fun p hp => tiE _ (.tail _ (.tail _ hp))
  refine whl_start 0 ?_
  refine while_ind (L := L') (DiffJ ea aa ml L oL (envOf cn cs L a ccd) rest es as) (by first | passes_own | with_unfolding_all passes_own) ?_ evs.length _ (((ea, W.listOf (List.toArray evs) en) :: (aa, W.listOf (List.toArray avs) an) :: (ml, W.listOf (List.toArray []) 0) :: rest) ++ [(L, { oL with slots := oL.slots })]) _ _ ?_ FF ?_
  · intro n m₁ nx h tk hJ F1 N1
    obtain ⟨evs, avs, mvs, en, an, mn, ers, ars, mrs, sl, rfl, tiF, hE, hA, hM, hn, hd, oe, oa, l1, l2, me, ma, mm⟩ := hJ
    have F2 := fr_pin F1 mm
    have F3 := fr_pin F2 (x := Str.ofString "actual") (by rw [if_neg (by decide)]; exact ma)
    have F4 := fr_pin F3 (x := Str.ofString "expected") (by rw [if_neg (by decide), if_neg (by decide)]; exact me)
    clear F1 F2 F3 FF NN lsl hs0
    rcases List.eq_nil_or_concat evs with rfl | ⟨ev0, v, hcc⟩
    · cases hE
      repeat' ((fail_if_success (with_reducible show TI.LeaveI _ _)); first | (k_unfold; (try dsimp only)) | (k_end; wrow_close) | (dsimp only; walk1) | walk1)
      rename Fr h₀ L' _ _ => gF
      rename News h₀ L' _ _ => gN
      rename (∀ p ∈ (ea, _) :: _, Prod.fst p < _) => lD2
      have hd2 : diffR es.reverse as = (mrs, ars) := by rw [hd]; simp [diffR]
      refine TLg.leave_back (new := (_, ({ cls := .type "tuple", data := .seq #[.ref ml, .ref aa] } : Obj)) :: (ea, W.listOf (List.toArray []) en) :: (aa, W.listOf (List.toArray avs) an) :: (ml, W.listOf (List.toArray mvs) mn) :: rest) tiC gF gN (TLgL.allNe_of ?_) ?_
      · intro p hp
        rcases List.mem_cons.mp hp with rfl | hp
        · exact (Nat.ne_of_lt (lD2 (L, { oL with slots := sl }) (.tail _ (.tail _ (List.mem_append.mpr (.inr (.head _))))))).symm
        · rcases List.mem_cons.mp hp with rfl | hp
          · exact heL
          · rcases List.mem_cons.mp hp with rfl | hp
            · exact haL
            · rcases List.mem_cons.mp hp with rfl | hp
              · exact hLm.symm
              · exact hrL p hp
      intro kF kN
      refine hq _ _ _ ml mvs mn avs an kF (fun p hp => kN p ?_) (by rw [hd2]; exact hM) (by rw [hd2]; exact hA)
      rcases List.mem_cons.mp hp with rfl | hp
      · exact .head _
      · exact .tail _ (.tail _ hp)
    · rw [List.concat_eq_append] at hcc
      subst hcc
      obtain ⟨er0, r, rfl, hE0, hv⟩ := hE.unsnoc
      repeat' ((fail_if_success (with_reducible show WhlIf _ _ _)); first | (k_unfold; (try dsimp only)) | (k_end; wrow_close) | (dsimp only; walk1) | walk1)
      refine WhlIf.yes (by simp) ?_
      repeat' ((fail_if_success (with_reducible show wpAny _ _ (call (Value.builtin "list.pop") _) _ _ _)); first | (k_unfold; (try dsimp only)) | (k_end; wrow_close) | (dsimp only; walk1) | walk1)
      rename Fr h₀ L' _ _ => F5
      rename News h₀ L' _ _ => N5
      refine pop_led (vs := ev0) (v := v) (keep := ((aa, W.listOf (List.toArray avs) an) :: (ml, W.listOf (List.toArray mvs) mn) :: rest) ++ [(L, ({ oL with slots := sl } : Obj))]) F5 N5 ?_ (by rw [sizeLine_eq]; rw [List.length_append, List.length_singleton] at l1; omega) ?_
      · intro p hp
        rcases List.mem_append.mp hp with hp | hp
        · rcases List.mem_cons.mp hp with rfl | hp
          · exact hne.symm
          · rcases List.mem_cons.mp hp with rfl | hp
            · exact hea.symm
            · exact he p hp
        · rw [List.mem_singleton.mp hp]; exact heL.symm
      intro h6 F6 N6
      try clear F5
      try clear N5
      try clear F4
      try clear N1
      dsimp only
      repeat' ((fail_if_success (with_reducible show wpAny _ _ (call (Value.builtin "list.remove") _) _ _ _)); first | (k_unfold; (try dsimp only)) | (k_end; wrow_close) | (dsimp only; walk1) | walk1)
      rename Fr h₀ L' _ _ => F7
      rename News h₀ L' _ _ => N7
      have hrev : (er0 ++ [r]).reverse = r :: er0.reverse := by rw [List.reverse_append]; rfl
      have oe0 : ∀ x ∈ er0, okP x := fun x hx => oe x (List.mem_append.mpr (.inl hx))
      have or0 : okP r := oe r (List.mem_append.mpr (.inr (.head _)))
      have hln : ev0.length < n := by rw [← hn, List.length_append, List.length_singleton]; omega
      rw [hrev] at hd
      by_cases hx : r ∈ ars
      · rw [diffR_cons, if_pos hx] at hd
        refine remove_led (o := rest) (vs := avs) (n := an) (keep := (ea, W.listOf (List.toArray ev0) (en + 1)) :: (ml, W.listOf (List.toArray mvs) mn) :: (rest ++ [(L, ({ oL with slots := sl } : Obj))])) F7 (fun p hp => N7 p ?_) ?_ (fun p hp => .tail _ (.tail _ (List.mem_append.mpr (.inl hp)))) hA hv oa or0 (by ke_room) (by rw [sizeLine_eq]; omega) hx ?_
        · rcases List.mem_cons.mp hp with rfl | hp
          · exact .tail _ (.head _)
          · rcases List.mem_cons.mp hp with rfl | hp
            · exact .head _
            · exact .tail _ (.tail _ hp)
        · intro p hp
          rcases List.mem_cons.mp hp with rfl | hp
          · exact hne
          · rcases List.mem_cons.mp hp with rfl | hp
            · exact haa.symm
            · rcases List.mem_append.mp hp with hp | hp
              · exact ha p hp
              · rw [List.mem_singleton.mp hp]; exact haL.symm
        intro h8 vs8 F8 N8 R8 hl8
        clear F7 N7
        dsimp only
        repeat' ((fail_if_success (with_reducible show Exists _)); first | (k_unfold; (try dsimp only)) | (k_end; wrow_close) | (dsimp only; walk1) | walk1)
        rename Fr h₀ L' _ _ => F9
        rename News h₀ L' _ _ => N9
        refine ⟨ev0.length, _, _, _, _, hln, rfl, ⟨ev0, vs8, mvs, en + 1, an + 1, mn, er0, ars.erase r, mrs, sl, rfl, tiF, hE0, R8, hM, rfl, hd, oe0, fun x hx => oa x (List.mem_of_mem_erase hx), ?_, ?_, rfl, rfl, rfl⟩, F9, fun p hp => N9 p ?_⟩
        · rw [List.length_append, List.length_singleton] at l1; omega
        · omega
        · rcases List.mem_cons.mp hp with rfl | hp
          · exact .tail _ (.head _)
          · rcases List.mem_cons.mp hp with rfl | hp
            · exact .head _
            · exact .tail _ (.tail _ hp)
      · rw [diffR_cons, if_neg hx] at hd
        have hsubr : ∀ p ∈ rest, p ∈ (ea, W.listOf (List.toArray ev0) (en + 1)) :: ((aa, W.listOf (List.toArray avs) an) :: (ml, W.listOf (List.toArray mvs) mn) :: rest ++ [(L, ({ oL with slots := sl } : Obj))]) := fun p hp => .tail _ (.tail _ (.tail _ (List.mem_append.mpr (.inl hp))))
        refine remove_none N7 (.tail _ (.head _)) (hA.mono hsubr) (hv.mono hsubr) oa or0 (by ke_room) hx (by rfl) ?_
        intro h8 tk8 e8 hX8
        dsimp only
        refine TLg.noted_new1 (new := (ea, W.listOf (List.toArray ev0) (en + 1)) :: (aa, W.listOf (List.toArray avs) an) :: (ml, W.listOf (List.toArray mvs) mn) :: rest) (by rfl) tiF hX8 F7 N7 (TLgL.allNe_of ?_) ?_
        · intro p hp
          rcases List.mem_cons.mp hp with rfl | hp
          · exact heL
          · rcases List.mem_cons.mp hp with rfl | hp
            · exact haL
            · rcases List.mem_cons.mp hp with rfl | hp
              · exact hLm.symm
              · exact hrL p hp
        intro h9 sl9 tiF9 tiH
        have tiHH := TT.HeldNA.held tiH
        clear F7 N7 hX8
        repeat' ((fail_if_success (with_reducible show wpAny _ _ (call (Value.builtin "list.append") _) _ _ _)); first | (k_unfold; (try dsimp only)) | (k_end; wrow_close) | (dsimp only; walk1) | walk1)
        rename Fr h₀ L' _ _ => F9
        rename News h₀ L' _ _ => N9
        refine app_led (sv := mvs) (sn := mn) (v := v) (keep := (ea, W.listOf (List.toArray ev0) (en + 1)) :: (aa, W.listOf (List.toArray avs) an) :: (rest ++ [(L, ({ oL with slots := sl9 } : Obj))])) F9 (fun p hp => N9 p ?_) ?_ (by rw [sizeLine_eq]; rw [List.length_append, List.length_singleton] at l1; omega) ?_
        · rcases List.mem_cons.mp hp with rfl | hp
          · exact .tail _ (.tail _ (.head _))
          · rcases List.mem_cons.mp hp with rfl | hp
            · exact .head _
            · rcases List.mem_cons.mp hp with rfl | hp
              · exact .tail _ (.head _)
              · exact .tail _ (.tail _ (.tail _ hp))
        · intro p hp
          rcases List.mem_cons.mp hp with rfl | hp
          · exact hea
          · rcases List.mem_cons.mp hp with rfl | hp
            · exact haa
            · rcases List.mem_append.mp hp with hp | hp
              · exact hrm p hp
              · rw [List.mem_singleton.mp hp]; exact hLm
        intro h10 F10 N10
        clear F9 N9
        dsimp only
        repeat' ((fail_if_success (with_reducible show Exists _)); first | (k_unfold; (try dsimp only)) | (k_end; wrow_close) | (dsimp only; walk1) | walk1)
        rename Fr h₀ L' _ _ => F11
        rename News h₀ L' _ _ => N11
        refine ⟨ev0.length, _, _, _, _, hln, rfl, ⟨ev0, avs, mvs ++ [v], en + 1, an, mn + 1, er0, ars, mrs ++ [r], sl9, rfl, tiF9, hE0, hA, hM.snoc hv, rfl, ?_, oe0, oa, ?_, l2, rfl, rfl, rfl⟩, F11, fun p hp => N11 p ?_⟩
        · rw [hd, List.append_assoc]; rfl
        · rw [List.length_append, List.length_singleton] at l1 ⊢; omega
        · rcases List.mem_cons.mp hp with rfl | hp
          · exact .tail _ (.head _)
          · rcases List.mem_cons.mp hp with rfl | hp
            · exact .tail _ (.tail _ (.head _))
            · rcases List.mem_cons.mp hp with rfl | hp
              · exact .head _
              · exact .tail _ (.tail _ (.tail _ hp))
  · exact ⟨evs, avs, [], en, an, 0, es, as, [], _, rfl, tiF, hE, hA, .nil, rfl, rfl, oE, oA, by rw [hE.length]; exact Nat.le_refl _, Nat.le_of_eq hA.length, rfl, rfl, rfl⟩
  · intro p hp
    rcases List.mem_append.mp hp with hp | hp
    · rcases List.mem_cons.mp hp with rfl | hp
      · exact NN _ (.tail _ (.head _))
      · rcases List.mem_cons.mp hp with rfl | hp
        · exact NN _ (.tail _ (.tail _ (.head _)))
        · rcases List.mem_cons.mp hp with rfl | hp
          · exact NN _ (.head _)
          · exact NN _ (.tail _ (.tail _ (.tail _ (List.mem_append.mpr (.inl hp)))))
    · rw [List.mem_singleton.mp hp]; exact NN _ (.tail _ (.tail _ (.tail _ (List.mem_append.mpr (.inr (.head _))))))
end
section
open PySem PySem.W PySem.Calls
open PyProof.Rows hiding wpAt wpAt_mono wpAt_bind wpAt_stack strKind
open PySem.W.X (Mem)
set_option Elab.async false
set_option maxRecDepth 100000
set_option maxHeartbeats 2000000
set_option pp.deepTerms false
set_option pp.maxSteps 3000
open LCg LCt
def pairD (a b : List Pr) : PyData := .tuple [rowsD a, rowsD b]
theorem eqv_pair (a b : List Pr) : PyData.eqv (pairD a b) (pairD a b) = true := by
  unfold pairD
  simp only [PyData.eqv, PyData.eqvAll, eqv_rows, decide_eq_true]
  simp
theorem lay_pair {a b : List Pr} (ha : ∀ r ∈ a, okP r) (hb : ∀ r ∈ b, okP r) : (pairD a b).canLay0 = true := by
  simp only [pairD, PyData.canLay0, PyData.canLayAll0]
  rw [lay_rows ha, lay_rows hb]; rfl
theorem dep_pair (a b : List Pr) : (pairD a b).depth ≤ 3 := by
  have := dep_rows a
  have := dep_rows b
  simp only [pairD, PyData.depth, PyData.depthAll]; omega
theorem pair_reads {g h : Heap} {L t a b : Addr} {o : List (Addr × Obj)} {us vs : List Value} {n1 n2 n3 : Nat} {xs ys : List Pr} (N : News g L h o) (ht : (t, ({ cls := .type "tuple", data := .seq #[.ref a, .ref b] n3 } : Obj)) ∈ o) (ha : (a, listOf us.toArray n1) ∈ o) (hb : (b, listOf vs.toArray n2) ∈ o) (xa : RowsV o us xs) (xb : RowsV o vs ys) : ∃ as, Reads h (.ref t) (pairD xs ys) as := by
  obtain ⟨as1, x1⟩ := rows_reads N ha xa
  obtain ⟨as2, x2⟩ := rows_reads N hb xb
  exact ⟨_, .tuple (N _ ht).1 rfl rfl (.cons x1 (.cons x2 .nil))⟩
theorem ne100 {g h : Heap} {L r : Addr} {o : List (Addr × Obj)} {tp us : Array Value} {n : Nat} (N : News g L h o) (h1 : (100, tabObj tp) ∈ o) (h2 : (r, listOf us n) ∈ o) : 100 ≠ r := by
  rintro rfl
  have := (N _ h1).1.symm.trans (N _ h2).1
  cases this
theorem leftC_sub {α : Type} [DecidableEq α] : ∀ {l : List α} {c : α → Nat}, ∀ x ∈ leftC l c, x ∈ l
  | [], _, _, h => h
  | y :: r, c, x, h => by
    rw [leftC_cons] at h
    split at h
    · exact .tail _ (leftC_sub x h)
    · rcases List.mem_cons.mp h with rfl | h
      · exact .head _
      · exact .tail _ (leftC_sub x h)
local macro_rules | `(tactic| k_all) => `(tactic| assumption)
local macro_rules | `(tactic| walk_at "subscriptTail Name Name ref int") => `(tactic| (k_here; (with_reducible show wpAny _ _ (subscriptTail _ _ (Value.ref _) (Value.int _ _)) _ _ _); (refine' item_list (items := List.toArray _) ?l ?a ?b ?c ?_; (case c => exact rfl); (case l => exact News.isL (by k_asm) (by bits_by_make)); (case a => omega); (case b => omega))))
local macro_rules | `(tactic| walk_at "subscriptTail Subscript Constant ref int") => `(tactic| (k_here; (with_reducible show wpAny _ _ (subscriptTail _ _ (Value.ref _) (Value.int _ _)) _ _ _); (refine' item_list (items := List.toArray _) ?l ?a ?b ?c ?_; (case c => exact rfl); (case l => exact News.isL (by k_asm) (by bits_by_make)); (case a => omega); (case b => omega))))
local macro_rules | `(tactic| walk_at "subscriptTail Subscript Name ref int") => `(tactic| (k_here; (with_reducible show wpAny _ _ (subscriptTail _ _ (Value.ref _) (Value.int _ _)) _ _ _); (refine' item_list (items := List.toArray _) ?l ?a ?b ?c ?_; (case c => exact rfl); (case l => exact News.isL (by k_asm) (by bits_by_make)); (case a => omega); (case b => omega))))
local macro_rules | `(tactic| walk_at "subscriptTail BinOp Constant ref int") => `(tactic| (k_here; (with_reducible show wpAny _ _ (subscriptTail _ _ (Value.ref _) (Value.int _ _)) _ _ _); (refine' item_list (items := List.toArray _) ?l ?a ?b ?c ?_; (case c => exact rfl); (case l => exact News.isL (by k_asm) (by bits_by_make)); (case a => omega); (case b => omega))))
theorem wp_hideQ {α : Type} {M : Model} {A : Around} {t : Sem α} {Q : α → Shared → Prop} {E : Value → Shared → Prop} {s : Shared} (h : ∀ Q', Q' = Q → wpAny M A t Q' E s) : wpAny M A t Q E s := h Q rfl
theorem law_holds : PySem.Challenge.rw_in0186_01.Holds := by
  refine hd ?_
  k_go0
  all_goals try k_fold
  rename Fr (ghostOf _ _) _ _ _ => F0
  rename Below callerA _ [] _ => B
  rename (hd.heap_1 _).In (ghostOf _ _) => X
  rename Top topProg _ _ _ _ (ghostOf _ _) => T0
  rename News (ghostOf _ _) _ _ [(100, tabObj #[])] => N0
  rename (ghostOf _ _).IsList _ _ => hl
  rename IntsAre _ _ => hi
  rename ¬ _ < _ => hcond
  have T : Top topProg lo _ _ _ _ := T0
  clear T0
  generalize ghostOf _ _ = g at *
  generalize Array.size (Heap.objs _) = L at *
  dsimp only
  refine wp_hideQ fun Q9 hQ9 => ?_
  repeat' ((fail_if_success (with_reducible show wpAny _ _ (call (Value.ref 220) _) _ _ _)); first | (k_unfold; (try dsimp only)) | (k_end; wrow_close) | ((fail_if_success (with_reducible show wpAny _ _ (subscriptTail _ (PySem.Expr.Slice _ _ _ _) _ _) _ _ _)); dsimp only; walk1) | walk1)
  have hi63 := Nat.le_of_not_lt fun e => hcond (Int.ofNat_lt.mpr e)
  refine deeds_call _ B F0 X N0 T rfl (by decide) (by decide) hl hi hi63 ?_
  intro h1 tk1 dl ds n1 F1 N1 hs1 hD1 hlen
  have hnm := hD1.names
  have hDo := hD1.monoC (offA_in N1 (hs1 _ (.head _)) (fun h => by rcases h with h | h <;> cases h))
  try clear F0
  try clear N0
  replace N1 : News g L h1 ((100, tabObj #[]) :: offA 100 n1) := fun p hp => by
    rcases List.mem_cons.mp hp with rfl | hp
    · exact N1 _ (hs1 _ (.head _))
    · exact N1 _ (offA_sub p hp)
  have hne1 : ∀ p ∈ offA 100 n1, p.1 ≠ 100 := offA_ne
  generalize offA 100 n1 = o1 at *
  clear hs1 hD1 n1
  dsimp only
  repeat' ((fail_if_success (with_reducible show wpAny _ _ (pyIter _) _ _ _)); first | (k_unfold; (try dsimp only)) | (k_end; wrow_close) | ((fail_if_success (with_reducible show wpAny _ _ (subscriptTail _ (PySem.Expr.Slice _ _ _ _) _ _) _ _ _)); dsimp only; walk1) | walk1)
  rename Fr g _ _ _ => F2
  rename News g _ _ _ => N2
  rename _ ∧ _ ∧ _ ∧ AllLt _ o1 => l3
  rename _ ∧ _ ∧ AllLt _ o1 => l2
  rename 100 < _ ∧ AllLt _ o1 => l1
  have l1' := allLt l1.2
  have l2' := allLt l2.2.2
  have l3' := allLt l3.2.2.2
  refine law_loop _ hDo hlen ?_ hnm B X T ?_ F2 N2 l2.1 l3.1 l1.1 l1' hne1 ?_
  · exact Int.fmod_nonneg_of_pos _ (by decide)
  · with_unfolding_all rfl
  intro t1 t2 r1 r2 ws1 ws2 c1 c2 n1 n2 tab1 tab2 o m3 h3 tk3 hT1 hI1 hr1 hR1 hT2 hI2 hr2 hR2 htab hr12 hoff F3 N3
  try clear F2
  try clear N2
  try clear l1'
  try clear l2'
  try clear l3'
  try clear l1
  try clear l2
  try clear l3
  try clear hDo
  try clear hne1
  dsimp only
  obtain ⟨tp, htp⟩ := htab
  obtain ⟨u1, e1⟩ : ∃ a, t1 = .ref a := by obtain ⟨l, _, _, e, _⟩ := hI1; exact ⟨l, e⟩
  obtain ⟨u2, e2⟩ : ∃ a, t2 = .ref a := by obtain ⟨l, _, _, e, _⟩ := hI2; exact ⟨l, e⟩
  subst e1 e2
  obtain ⟨tbl, etb⟩ := nm_head N3
  obtain ⟨rwl, erw⟩ := nm_head (a := _) (fun p hp => N3 p (.tail _ hp))
  subst etb erw
  have O1 := tab_of hT1
  have O2 := tab_of hT2
  have hvl : ∀ D ∈ ds, D.v ∈ valsL := fun D hD => (hnm D hD).2.1
  have hl10 : (ds.length : Int) ≤ 10 := by omega
  have hk1 := kept_le O1.1 O2.1 hl10
  have hlv1 : ∀ r ∈ tab1, r.2.length ≤ 1000 := fun r hr => by rw [(O1.1.val r hr).2]; have := valU_len (ds := ds) (n := r.1) (u := 10); omega
  have hlv2 : ∀ r ∈ tab2, r.2.length ≤ 1000 := fun r hr => by rw [(O2.1.val r hr).2]; exact Nat.le_trans valU_len (by omega)
  repeat' ((fail_if_success (with_reducible show wpAny _ _ (call (Value.ref 254) _) _ _ _)); first | (k_unfold; (try dsimp only)) | (k_end; wrow_close) | ((fail_if_success (with_reducible show wpAny _ _ (subscriptTail _ (PySem.Expr.Slice _ _ _ _) _ _) _ _ _)); dsimp only; walk1) | walk1)
  rename Fr g _ _ _ => F4
  rename News g _ _ _ => N4
  refine tell2_aside (hid := [(tbl, W.listOf (List.toArray [.ref u1, .ref u2]) n1), (rwl, W.listOf (List.toArray [.ref r1, .ref r2]) n2)]) (news := o) (lost_spec _ o u1 u2 tab1 tab2 hI1 hI2 hk1 (by omega) (by omega) hlv1 hlv2 (fun i => Nat.le_trans (lost_len O1.1 O1.2 (by omega) i) (by decide))) B F4 X N4 T rfl (by decide) (by decide) ?_ ?_
  · intro p hp q hq
    rcases List.mem_cons.mp hp with rfl | hp
    · exact (hoff q hq).1.symm
    · rw [List.mem_singleton.mp hp]; exact (hoff q hq).2.symm
  rintro r5 o5 h5 tk5 F5 N5 hoff5 ⟨hs5, ll, lvs, ln, rfl, hll, hLR⟩
  try clear F4
  try clear N4
  try clear F3
  try clear N3
  replace N5 : News g _ h5 ((tbl, W.listOf (List.toArray [.ref u1, .ref u2]) n1) :: (rwl, W.listOf (List.toArray [.ref r1, .ref r2]) n2) :: o5) := N5
  have j1 := hs5 _ hr1
  have j100 := hs5 _ htp
  have j2 := hs5 _ hr2
  have jR1 := hR1.mono hs5
  have jR2 := hR2.mono hs5
  clear htp hoff hr1 hr2 hR1 hR2 hI1 hI2 hs5 o
  have f1 := flat_len O1.1 O1.2 (by omega)
  have f2 := flat_len O2.1 O2.2 (by omega)
  have g1 := jR1.length
  have g2 := jR2.length
  repeat' ((fail_if_success (with_reducible show wpAny _ _ (binaryOp _ _ _) _ _ _)); first | (k_unfold; (try dsimp only)) | (k_end; wrow_close) | ((fail_if_success (with_reducible show wpAny _ _ (subscriptTail _ (PySem.Expr.Slice _ _ _ _) _ _) _ _ _)); dsimp only; walk1) | walk1)
  rename Fr g _ _ _ => F6
  rename News g _ _ _ => N6
  rename tbl < _ ∧ rwl < _ ∧ AllLt _ o5 => l6
  obtain ⟨em1, eem⟩ := nm_head N6
  subst eem
  have lt6 := fun p hp => Heap.lt_size (N6 p hp).1
  refine add_lists F6 N6 (News.isL (vs := ws1) N6 (.tail _ (.tail _ (.tail _ j1)))) (News.isL (vs := []) N6 (.head _)) ?_ (by rw [sizeLine_eq, List.length_nil]; omega)
  rw [List.append_nil]
  intro h7 F7 N7
  dsimp only at lt6 F7 N7 ⊢
  generalize Array.size (Heap.objs _) = ea at N7 lt6 ⊢
  try clear F6
  try clear N6
  repeat' ((fail_if_success (with_reducible show wpAny _ _ (binaryOp _ _ _) _ _ _)); first | (k_unfold; (try dsimp only)) | (k_end; wrow_close) | ((fail_if_success (with_reducible show wpAny _ _ (subscriptTail _ (PySem.Expr.Slice _ _ _ _) _ _) _ _ _)); dsimp only; walk1) | walk1)
  rename Fr g _ _ _ => F8
  rename News g _ _ _ => N8
  obtain ⟨em2, eem⟩ := nm_head N8
  subst eem
  have lt8 := fun p hp => Heap.lt_size (N8 p hp).1
  refine add_lists F8 N8 (News.isL (vs := ws2) N8 (.tail _ (.tail _ (.tail _ (.tail _ (.tail _ j2)))))) (News.isL (vs := []) N8 (.head _)) ?_ (by rw [sizeLine_eq, List.length_nil]; omega)
  rw [List.append_nil]
  intro h9 F9 N9
  dsimp only at lt8 F9 N9 ⊢
  generalize Array.size (Heap.objs _) = aa at N9 lt8 ⊢
  try clear F8
  try clear N8
  try clear F7
  try clear N7
  repeat' ((fail_if_success (with_reducible show wpAny _ _ (call (Value.ref 213) _) _ _ _)); first | (k_unfold; (try dsimp only)) | (k_end; wrow_close) | ((fail_if_success (with_reducible show wpAny _ _ (subscriptTail _ (PySem.Expr.Slice _ _ _ _) _ _) _ _ _)); dsimp only; walk1) | walk1)
  rename Fr g _ _ _ => F10
  rename News g _ _ _ => N10
  have okf1 := flat_ok O1.1 hvl
  have okf2 := flat_ok O2.1 hvl
  have hll5 : lvs.length ≤ 30 := by
    have := lost_len (t' := tab2) O1.1 O1.2 (by omega) tab1.length
    rw [List.take_length] at this
    rw [hLR.length]
    exact this
  refine diff_call _ (rest := (tbl, W.listOf (List.toArray [.ref u1, .ref u2]) n1) :: (rwl, W.listOf (List.toArray [.ref r1, .ref r2]) n2) :: o5) (evs := ws1) (avs := ws2) (en := 0) (an := 0) F10 X (fun p hp => N10 p ?_) T rfl (Nat.ne_of_lt (lt8 _ (.tail _ (.head _)))) (fun p hp => Nat.ne_of_lt (lt6 p (.tail _ hp))) (fun p hp => Nat.ne_of_lt (lt8 p (.tail _ (.tail _ (.tail _ hp)))))
    (jR1.mono fun p hp => .tail _ (.tail _ hp)) (jR2.mono fun p hp => .tail _ (.tail _ hp)) okf1 okf2 (by omega) (by omega) ?_
  · rcases List.mem_cons.mp hp with rfl | hp
    · exact .tail _ (.tail _ (.head _))
    rcases List.mem_cons.mp hp with rfl | hp
    · exact .head _
    · exact .tail _ (.tail _ (.tail _ (.tail _ hp)))
  intro h11 tk11 tup ml mvs mn avs an F11 N11 hM hA
  rw [diff_lost O1.1 O2.1 hl10] at hM hA
  try clear F10
  try clear N10
  try clear F9
  try clear N9
  try clear lt6
  try clear lt8
  try clear l6
  dsimp only at hM hA ⊢
  repeat' ((fail_if_success (with_reducible show wpAny _ _ (subscriptTail _ (Expr.Slice _ _ _ _) _ _) _ _ _)); first | (k_unfold; (try dsimp only)) | (k_end; wrow_close) | ((fail_if_success (with_reducible show wpAny _ _ (subscriptTail _ (PySem.Expr.Slice _ _ _ _) _ _) _ _ _)); dsimp only; walk1) | walk1)
  dsimp only
  refine' krv_lit (s := { heap := h11, gens := _, drawn := _, toks := _, os := _ }) (its := lvs.toArray) ?z9F ?z9N ?z9l ?z9k ?z9e ?_ ?z9s ?z9t ?z9z
  case z9F => exact F11
  case z9N => exact N11
  case z9l => exact News.isL N11 (.tail _ (.tail _ (.tail _ (.tail _ (.tail _ hll)))))
  case z9k => exact IsPart.int _ _
  case z9e => exact rfl
  case z9s => with_unfolding_all rfl
  case z9t => (intro _; with_unfolding_all rfl)
  case z9z => (rw [sizeLine_eq, List.size_toArray]; omega)
  intro D12 h12 F12 N12 l12
  try clear F11
  try clear N11
  dsimp only
  repeat' ((fail_if_success (with_reducible show wpAny _ _ (compareOp _ _ _) _ _ _)); first | (k_unfold; (try dsimp only)) | (k_end; wrow_close) | ((fail_if_success (with_reducible show wpAny _ _ (subscriptTail _ (PySem.Expr.Slice _ _ _ _) _ _) _ _ _)); dsimp only; walk1) | walk1)
  rename Fr g _ _ _ => F13
  rename News g _ _ _ => N13
  obtain ⟨D13, eD⟩ := nm_head N13
  subst eD
  have okl : ∀ r ∈ (lostS tab1 tab2).reverse, okP r := fun r hr => by
    have e := diff_lost O1.1 O2.1 hl10
    rw [diffR_eq] at e
    have e1 := congrArg Prod.fst e
    dsimp only at e1
    rw [← e1] at hr
    exact okf1 r (List.mem_reverse.mp (leftC_sub r hr))
  have up5 : ∀ {x1 x2 x3 x4 x5 x6 : Addr × Obj} {l : List (Addr × Obj)} (p : Addr × Obj), p ∈ l → p ∈ x1 :: x2 :: x3 :: x4 :: x5 :: x6 :: l := fun p hp => .tail _ (.tail _ (.tail _ (.tail _ (.tail _ (.tail _ hp)))))
  obtain ⟨as14, ra14⟩ := pair_reads (us := mvs) (vs := avs) N13 (.tail _ (.tail _ (.tail _ (.head _)))) (.tail _ (.tail _ (.tail _ (.tail _ (.tail _ (.head _)))))) (.tail _ (.tail _ (.tail _ (.tail _ (.head _))))) (hM.mono up5) (hA.mono up5)
  obtain ⟨bs14, rb14⟩ := pair_reads (us := lvs.reverse) (vs := []) N13 (.head _) (.tail _ (.tail _ (.head _))) (.tail _ (.head _)) (hLR.reverse.mono (fun p hp => up5 p (.tail _ (.tail _ hp)))) (.nil)
  refine SeqAt.compareNe_reads ra14 rb14 (lay_pair okl (fun r hr => nomatch hr)) (lay_pair okl (fun r hr => nomatch hr)) (Nat.lt_of_le_of_lt (Nat.add_le_add_left (Nat.min_le_right _ _) _) (Nat.lt_of_le_of_lt (Nat.add_le_add_left (dep_pair _ _) _) (by ktr_units))) ?_
  rw [eqv_pair]
  clear ra14 rb14 up5 hM hA
  replace N13 : News g _ _ ((tbl, W.listOf (List.toArray [.ref u1, .ref u2]) n1) :: (rwl, W.listOf (List.toArray [.ref r1, .ref r2]) n2) :: o5) := fun p hp => N13 p (.tail _ (.tail _ (.tail _ (.tail _ (.tail _ (.tail _ hp))))))
  repeat' ((fail_if_success (with_reducible show wpAny _ _ (call (Value.ref 259) _) _ _ _)); first | (k_unfold; (try dsimp only)) | (k_end; wrow_close) | ((fail_if_success (with_reducible show wpAny _ _ (subscriptTail _ (PySem.Expr.Slice _ _ _ _) _ _) _ _ _)); dsimp only; walk1) | walk1)
  have kR1 := RowsV.mono (fun p hp => .tail _ (.tail _ hp) : ∀ p ∈ o5, p ∈ (tbl, W.listOf (List.toArray [.ref u1, .ref u2]) n1) :: (rwl, W.listOf (List.toArray [.ref r1, .ref r2]) n2) :: o5) jR1
  have kR2 := RowsV.mono (fun p hp => .tail _ (.tail _ hp) : ∀ p ∈ o5, p ∈ (tbl, W.listOf (List.toArray [.ref u1, .ref u2]) n1) :: (rwl, W.listOf (List.toArray [.ref r1, .ref r2]) n2) :: o5) jR2
  refine tell_call (left_spec _ _ r1 r2 ws1 ws2 c1 c2 (flat tab1) (flat tab2) (.tail _ (.tail _ j1)) (.tail _ (.tail _ j2)) kR1 kR2 okf1 okf2 (by omega) (by omega)) B F13 X N13 T rfl (by decide) (by decide) ?_
  rintro r15 o15 h15 tk15 F15 N15 ⟨lf, lfs, lfn, rfl, rfl, hlf, hLf⟩
  try clear F13
  try clear N13
  dsimp only
  repeat' ((fail_if_success (with_reducible show wpAny _ _ (call (Value.ref 213) _) _ _ _)); first | (k_unfold; (try dsimp only)) | (k_end; wrow_close) | ((fail_if_success (with_reducible show wpAny _ _ (subscriptTail _ (PySem.Expr.Slice _ _ _ _) _ _) _ _ _)); dsimp only; walk1) | walk1)
  rename Fr g _ _ _ => F16
  rename News g _ _ _ => N16
  have hm1 : (r1, W.listOf (List.toArray ws1) c1) ∈ (lf, W.listOf (List.toArray lfs) lfn) :: (tbl, W.listOf (List.toArray [.ref u1, .ref u2]) n1) :: (rwl, W.listOf (List.toArray [.ref r1, .ref r2]) n2) :: o5 := .tail _ (.tail _ (.tail _ j1))
  have hm2 := offA_mem (x := r1) (r2, W.listOf (List.toArray ws2) c2) (.tail _ (.tail _ (.tail _ j2)) : _ ∈ (lf, W.listOf (List.toArray lfs) lfn) :: (tbl, W.listOf (List.toArray [.ref u1, .ref u2]) n1) :: (rwl, W.listOf (List.toArray [.ref r1, .ref r2]) n2) :: o5) hr12.symm
  have q1 := RowsV.offA (Mine.News.offA N16) hm2 kR2 (RowsV.offA N16 hm1 kR1 (kR1.mono fun p hp => .tail _ hp))
  have q2 := RowsV.offA (Mine.News.offA N16) hm2 kR2 (RowsV.offA N16 hm1 kR1 (kR2.mono fun p hp => .tail _ hp))
  have q3 := RowsV.offA (Mine.News.offA N16) hm2 kR2 (RowsV.offA N16 hm1 kR1 (hLf.mono fun p hp => .tail _ hp))
  have q4 := offA_mem (x := r2) _ (offA_mem (o := (lf, W.listOf (List.toArray lfs) lfn) :: (tbl, W.listOf (List.toArray [.ref u1, .ref u2]) n1) :: (rwl, W.listOf (List.toArray [.ref r1, .ref r2]) n2) :: o5) (x := r1) (lf, W.listOf (List.toArray lfs) lfn) (.head _) (hlf _ (.tail _ (.tail _ j1))).symm) (hlf _ (.tail _ (.tail _ j2))).symm
  have q8 := offA_mem (x := r2) _ (offA_mem (o := (lf, W.listOf (List.toArray lfs) lfn) :: (tbl, W.listOf (List.toArray [.ref u1, .ref u2]) n1) :: (rwl, W.listOf (List.toArray [.ref r1, .ref r2]) n2) :: o5) (x := r1) (100, tabObj tp) (.tail _ (.tail _ (.tail _ j100))) (ne100 N16 (.tail _ (.tail _ (.tail _ j100))) hm1)) (ne100 N16 (.tail _ (.tail _ (.tail _ j100))) (.tail _ (.tail _ (.tail _ j2))))
  have q5 := offA_ne (x := r2) (o := offA r1 ((lf, W.listOf (List.toArray lfs) lfn) :: (tbl, W.listOf (List.toArray [.ref u1, .ref u2]) n1) :: (rwl, W.listOf (List.toArray [.ref r1, .ref r2]) n2) :: o5))
  have q6 : ∀ p ∈ offA r2 (offA r1 ((lf, W.listOf (List.toArray lfs) lfn) :: (tbl, W.listOf (List.toArray [.ref u1, .ref u2]) n1) :: (rwl, W.listOf (List.toArray [.ref r1, .ref r2]) n2) :: o5)), p.1 ≠ r1 := fun p hp => offA_ne p (offA_sub p hp)
  have q7 : ∀ p ∈ offA r2 (offA r1 ((lf, W.listOf (List.toArray lfs) lfn) :: (tbl, W.listOf (List.toArray [.ref u1, .ref u2]) n1) :: (rwl, W.listOf (List.toArray [.ref r1, .ref r2]) n2) :: o5)), p ∈ (lf, W.listOf (List.toArray lfs) lfn) :: (tbl, W.listOf (List.toArray [.ref u1, .ref u2]) n1) :: (rwl, W.listOf (List.toArray [.ref r1, .ref r2]) n2) :: o5 := fun p hp => offA_sub p (offA_sub p hp)
  generalize offA r2 (offA r1 ((lf, W.listOf (List.toArray lfs) lfn) :: (tbl, W.listOf (List.toArray [.ref u1, .ref u2]) n1) :: (rwl, W.listOf (List.toArray [.ref r1, .ref r2]) n2) :: o5)) = o16 at *
  refine diff_call _ (rest := o16) (evs := ws2) (avs := ws1) (en := c2) (an := c1) F16 X (fun p hp => N16 p ?_) T rfl hr12.symm q5 q6 q2 q1 okf2 okf1 (by omega) (by omega) ?_
  · rcases List.mem_cons.mp hp with rfl | hp
    · exact .tail _ (.tail _ (.tail _ j2))
    rcases List.mem_cons.mp hp with rfl | hp
    · exact hm1
    · exact q7 p hp
  intro h17 tk17 tup2 ml2 mvs2 mn2 avs2 an2 F17 N17 hM hA
  rw [diff_left O1.1 O2.1 hl10] at hM hA
  try clear F16
  try clear N16
  try clear F15
  try clear N15
  try clear hm2
  try clear q1
  try clear q2
  try clear q7
  dsimp only at hM hA ⊢
  repeat' ((fail_if_success (with_reducible show wpAny _ _ (compareOp _ _ _) _ _ _)); first | (k_unfold; (try dsimp only)) | (k_end; wrow_close) | ((fail_if_success (with_reducible show wpAny _ _ (subscriptTail _ (PySem.Expr.Slice _ _ _ _) _ _) _ _ _)); dsimp only; walk1) | walk1)
  rename Fr g _ _ _ => F18
  rename News g _ _ _ => N18
  have okc : ∀ r ∈ leftC (flat tab1) (fun x => (flat tab2).count x), okP r := fun r hr => okf1 r (leftC_sub r hr)
  obtain ⟨as19, ra19⟩ := pair_reads (us := mvs2) (vs := avs2) N18 (.tail _ (.tail _ (.head _))) (.tail _ (.tail _ (.tail _ (.tail _ (.head _))))) (.tail _ (.tail _ (.tail _ (.head _)))) (hM.mono fun p hp => .tail _ (.tail _ (.tail _ (.tail _ (.tail _ hp))))) (hA.mono fun p hp => .tail _ (.tail _ (.tail _ (.tail _ (.tail _ hp)))))
  obtain ⟨bs19, rb19⟩ := pair_reads (us := []) (vs := lfs) N18 (.head _) (.tail _ (.head _)) (.tail _ (.tail _ (.tail _ (.tail _ (.tail _ q4))))) (.nil) (q3.mono fun p hp => .tail _ (.tail _ (.tail _ (.tail _ (.tail _ hp)))))
  refine SeqAt.compareEq_reads ra19 rb19 (lay_pair (fun r hr => nomatch hr) okc) (lay_pair (fun r hr => nomatch hr) okc) (Nat.lt_of_le_of_lt (Nat.add_le_add_left (Nat.min_le_right _ _) _) (Nat.lt_of_le_of_lt (Nat.add_le_add_left (dep_pair _ _) _) (by ktr_units))) ?_
  rw [eqv_pair]
  clear ra19 rb19
  subst hQ9
  repeat' ((fail_if_success (with_reducible show And _ _)); first | (k_unfold; (try dsimp only)) | (k_end; wrow_close) | ((fail_if_success (with_reducible show wpAny _ _ (subscriptTail _ (PySem.Expr.Slice _ _ _ _) _ _) _ _ _)); dsimp only; walk1) | walk1)
  rename Fr g _ _ _ => F20
  rename News g _ _ _ => N20
  refine And.intro ?_ (And.intro (GrownAt.of N20 (.tail _ (.tail _ (.tail _ (.tail _ (.tail _ q8)))))) True.intro)
  k_end
  w_end
  (show GoodW _ _ _ _ _ (.ok (.ret (.bool _))) _)
  refine goodW_bool (by assumption) (by assumption) (raisesW_false ?_) ?_
  · wrow_none_raised
  · with_unfolding_all rfl
end
end Mine
theorem PySem.Challenge.cw_in0186_01_holds : PySem.Challenge.rw_in0186_01.Holds := by
  exact Mine.law_holds
