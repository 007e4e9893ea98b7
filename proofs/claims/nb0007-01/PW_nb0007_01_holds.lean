import PyProof.Rows.All
import Wide.All
import OpenK.AllK
import Wide.FinOn
import PySem.Challenge.RW_nb0007_01
open PySem PySem.W PyProof.Rows
set_option Elab.async false
set_option linter.all false
namespace Mine
set_option maxRecDepth 100000 in
set_option maxHeartbeats 8000000 in
open_top hd for PySem.Challenge.rw_nb0007_01
end Mine
namespace Mine
open Sem (wp)
open Builtin Builtin.Str
set_option maxRecDepth 100000

theorem slot_map_iter : Slot "map" "__iter__" "map.__iter__" :=
  .of (owner := "map") (n := "__iter__") (by rw [typeLookup_type, builtinLookup_eq_fast]; kernel_rfl) (by decide +kernel) (by decide +kernel) (by decide +kernel)
    (by first | exact .inl (by decide +kernel) | exact .inr (by decide +kernel)) (by rw [isSubtype_type]; kernel_rfl)
theorem slot_map_next : Slot "map" "__next__" "map.__next__" :=
  .of (owner := "map") (n := "__next__") (by rw [typeLookup_type, builtinLookup_eq_fast]; kernel_rfl) (by decide +kernel) (by decide +kernel) (by decide +kernel)
    (by first | exact .inl (by decide +kernel) | exact .inr (by decide +kernel)) (by rw [isSubtype_type]; kernel_rfl)
theorem slot_map_init : Slot "map" "__init__" "object.__init__" :=
  .of (owner := "object") (n := "__init__") (by rw [typeLookup_type, builtinLookup_eq_fast]; kernel_rfl) (by decide +kernel) (by decide +kernel) (by decide +kernel)
    (by first | exact .inl (by decide +kernel) | exact .inr (by decide +kernel)) (by rw [isSubtype_type]; kernel_rfl)
theorem entry_map_iter : entryFor table "map.__iter__" = some Builtin.«dict_keyiterator.__iter__» :=
  entryFor_alias (id' := "dict_keyiterator.__iter__") (by kernel_rfl) (by first | rfl | decide +kernel) (by decide +kernel) (by kernel_rfl)
theorem entry_map_next : entryFor table "map.__next__" = some Builtin.«map.__next__» := entryFor_of_fast (by kernel_rfl)
theorem args_map_iter_1 (a : Value) : argsOk "map.__iter__" ⟨[a], []⟩ := by unfold argsOk; kernel_rfl
theorem args_map_next_1 (a : Value) : argsOk "map.__next__" ⟨[a], []⟩ := by unfold argsOk; kernel_rfl
theorem mro_map : mroOf (.type "map") = pure [.type "map", .type "object"] := by rw [mroOf_type]; kernel_rfl
theorem lookup_map_new : typeLookup (.type "map") "__new__" = pure (some (.builtin "map.__new__")) := by rw [typeLookup_type, builtinLookup_eq_fast]; kernel_rfl
theorem called_map : TypeCalled "map" "map.__new__" "object.__init__" :=
  ⟨by decide +kernel, by decide +kernel, ⟨_, _, mro_map⟩, madeBy_type mro_map lookup_map_new (by decide +kernel), by decide +kernel, by rw [isSubtype_type]; kernel_rfl, slot_map_init⟩
theorem typeCall_map_2 (a b : Value) : checkTypeCall "map" ⟨[a, b], []⟩ = pure () := by kernel_rfl
theorem newCall_map_2 (a b : Value) : checkBuiltinCall "map.__new__" ⟨[.type "map", a, b], []⟩ = pure () := by kernel_rfl
theorem entry_map_new : entryFor table "map.__new__" = some Builtin.«map.__new__» := entryFor_of_tree (by kernel_rfl)
theorem sub_map : isSubtype (.type "map") (.type "map") = pure true := by rw [isSubtype_type]; kernel_rfl
theorem map_no_len : typeLookup (.type "map") "__len__" = pure none := by rw [typeLookup_type, builtinLookup_eq_fast]; kernel_rfl
theorem map_no_hint : typeLookup (.type "map") "__length_hint__" = pure none := by rw [typeLookup_type, builtinLookup_eq_fast]; kernel_rfl

abbrev IsMap (h : Heap) (z TI : Addr) : Prop := h.get? z = some { cls := .type "map", dict := none, data := .fields #[.ref TI, .builtin "str.capitalize"], slots := #[] }
abbrev IsOne (h : Heap) (T : Addr) (a : Value) : Prop := h.get? T = some { cls := .type "tuple", data := .seq #[a] }

abbrev mapH1 (h : Heap) (l : Addr) : Heap := h.push { cls := .type "list_iterator", data := .fields #[.ref l, .int 0 0] }
abbrev mapH2 (h : Heap) (l : Addr) : Heap := (mapH1 h l).push { cls := .type "tuple", data := .seq #[.ref h.objs.size] }
abbrev mapH3 (h : Heap) (l : Addr) : Heap := (mapH2 h l).push { cls := .type "map", data := .fields #[.ref (mapH1 h l).objs.size, .builtin "str.capitalize"] }

theorem meets_map_new (l : Addr) (xs : Array Value) :
    Meets (Builtin.«map.__new__» ⟨[.type "map", .builtin "str.capitalize", .ref l], []⟩) (fun _ R s => s.heap.IsList l xs ∧
      R (.ok (.ret (.ref (mapH2 s.heap l).objs.size))) { s with heap := mapH3 s.heap l }) :=
  .of_wp fun prog w A R s h => by
    obtain ⟨hp, g, d, tk, os⟩ := s; obtain ⟨hl, h⟩ := h
    have hsub := sub_map
    have hL1 : Heap.IsList (Shared.heap ⟨hp, g, d, tk, os⟩) l xs := hl
    wp_walk using wpAny_pyIter_list hL1
    exact ⟨_, rfl, h⟩

section
variable {prog : Program} {w : World} {A : Around} {E : Value → Shared → Prop} {s : Shared}

theorem call_map {l : Addr} {xs : Array Value} {Q : Value → Shared → Prop} (hl : s.heap.IsList l xs)
    (h : ∀ h', IsMap h' (s.heap.objs.size + 2) (s.heap.objs.size + 1) → IsOne h' (s.heap.objs.size + 1) (.ref s.heap.objs.size) → h'.IsListIter s.heap.objs.size l 0 → h'.objs.size = s.heap.objs.size + 3 →
      (∀ c o, s.heap.get? c = some o → h'.get? c = some o) → Q (.ref (s.heap.objs.size + 2)) { s with heap := h' }) :
    wpAny (model prog w) A (call (.type "map") [.builtin "str.capitalize", .ref l]) Q E s := by
  refine callType_new called_map (by decide) (typeCall_map_2 _ _) (newCall_map_2 _ _) (fun obj => F.args_object_init_3 obj _ _) entry_map_new
    (meets_map_new l xs) ⟨hl, ?_⟩
  have z1 : (mapH1 s.heap l).objs.size = s.heap.objs.size + 1 := Heap.size_push ..
  have z2 : (mapH2 s.heap l).objs.size = s.heap.objs.size + 2 := by rw [Heap.size_push, z1]
  have z3 : (mapH3 s.heap l).objs.size = s.heap.objs.size + 3 := by rw [Heap.size_push, z2]
  have g3 : (mapH3 s.heap l).get? (mapH2 s.heap l).objs.size = some _ := Heap.get?_push_size _ rfl
  have g2 : (mapH3 s.heap l).get? (mapH1 s.heap l).objs.size = some _ := Heap.get?_push_of_some _ (Heap.get?_push_size _ rfl)
  have g1 : (mapH3 s.heap l).get? s.heap.objs.size = some _ := Heap.get?_push_of_some _ (Heap.get?_push_of_some _ (Heap.get?_push_size _ rfl))
  show _ ∧ _
  rw [z1, z2] at g3
  rw [z1] at g2
  rw [z2]
  exact ⟨⟨_, g3, rfl⟩, h _ g3 g2 ⟨_, g1, rfl, rfl⟩ z3 fun c o x => Heap.get?_push_of_some _ (Heap.get?_push_of_some _ (Heap.get?_push_of_some _ x))⟩

structure MapApart (z TI it l : Addr) : Prop where
  zit : z ≠ it
  TIit : TI ≠ it
  lit : l ≠ it

theorem map_next_item {z TI it l : Addr} {k : Nat} {xs : Array Value} {x : Str} {t : Tok} {Q : Value → Shared → Prop} (D : MapApart z TI it l)
    (hz : IsMap s.heap z TI) (hTI : IsOne s.heap TI (.ref it)) (h1 : s.heap.IsListIter it l k) (hl : s.heap.IsList l xs) (hx : xs[k]? = some (.str x t)) (hfit : x.length ≤ 5592405)
    (hQ : ∀ h' t' tk, h'.IsListIter it l (k + 1) → Heap.SameBut it s.heap h' → Q (.str (Txt.capitalize x) t') { s with heap := h', toks := tk }) :
    wpAny (model prog w) A (Builtin.«map.__next__» ⟨[.ref z], []⟩) (fun fin s' => ∃ v, fin = .done (.ret v) ∧ Q v s') E s := by
  show wpAny _ _ (field (.ref z) 0 >>= _) _ _ _
  refine wpAny_bind (wpAny_field hz rfl (x := .ref TI) rfl ?_)
  refine wpAny_bind (wpAny_seqItems hTI rfl ?_)
  refine wpAny_bind ?_
  rw [← Array.forIn_toList]
  simp only [List.forIn_cons, List.forIn_nil]
  refine wpAny_bind (wpAny_bind (wpAny_holding ?_))
  refine wpAny_nextOf_list_item h1 hl hx fun h₂ h1₂ hs₂ => ?_
  refine wpAny_pure (wpAny_pure ?_)
  refine wpAny_bind (wpAny_field (hs₂.extBut _ _ D.zit hz) rfl (x := .builtin "str.capitalize") rfl ?_)
  refine wpAny_bind (wpAny_holding ?_)
  show wpAny _ _ (call (.builtin "str.capitalize") [.str x t]) _ _ _
  refine SCL.capitalize hfit fun t' k' _ => ?_
  refine wpAny_bind (wpAny_letGo ?_)
  exact wpAny_pure ⟨_, rfl, hQ h₂ t' k' h1₂ hs₂⟩

theorem map_next_end {z TI it l : Addr} {k : Nat} {xs : Array Value} {Q : Fin → Shared → Prop} (hh : A.handled = none)
    (hz : IsMap s.heap z TI) (hTI : IsOne s.heap TI (.ref it)) (h1 : s.heap.IsListIter it l k) (hl : s.heap.IsList l xs) (hx : xs[k]? = none)
    (hE : ∀ h' e, Heap.ExtBut it s.heap h' → (∃ o, h'.get? e = some o ∧ o.cls = .type "StopIteration") → E (.ref e) { s with heap := h' }) :
    wpAny (model prog w) A (Builtin.«map.__next__» ⟨[.ref z], []⟩) Q E s := by
  show wpAny _ _ (field (.ref z) 0 >>= _) _ _ _
  refine wpAny_bind (wpAny_field hz rfl (x := .ref TI) rfl ?_)
  refine wpAny_bind (wpAny_seqItems hTI rfl ?_)
  refine wpAny_bind ?_
  rw [← Array.forIn_toList]
  simp only [List.forIn_cons, List.forIn_nil]
  refine wpAny_bind (wpAny_bind (wpAny_holding ?_))
  exact wpAny_nextOf_list_end hh h1 hl hx hE

theorem pyNext_map_item {z TI it l : Addr} {k : Nat} {xs : Array Value} {x : Str} {t : Tok} {Q : Option Value → Shared → Prop} (D : MapApart z TI it l)
    (hz : IsMap s.heap z TI) (hTI : IsOne s.heap TI (.ref it)) (h1 : s.heap.IsListIter it l k) (hl : s.heap.IsList l xs) (hx : xs[k]? = some (.str x t)) (hfit : x.length ≤ 5592405)
    (hQ : ∀ h' t' tk, h'.IsListIter it l (k + 1) → Heap.SameBut it s.heap h' → Q (some (.str (Txt.capitalize x) t')) { s with heap := h', toks := tk }) :
    wpAny (model prog w) A (pyNext (.ref z)) Q E s := by
  have hT : s.TypeIs (.ref z) "map" := ⟨_, hz, rfl⟩
  unfold pyNext
  exact wpAny_bind (wpAny_attempt (wpAny_callSpecial?_slot (name := Str.ofString "__next__") hT slot_map_next
    (wpAny_call_entry slot_map_next hT entry_map_next
      (map_next_item D hz hTI h1 hl hx hfit fun h' t' tk a1 a2 => wpAny_pure (hQ h' t' tk a1 a2)) (args_map_next_1 _))))

theorem pyNext_map_end {z TI it l : Addr} {k : Nat} {xs : Array Value} {Q : Option Value → Shared → Prop} (hh : A.handled = none)
    (hz : IsMap s.heap z TI) (hTI : IsOne s.heap TI (.ref it)) (h1 : s.heap.IsListIter it l k) (hl : s.heap.IsList l xs) (hx : xs[k]? = none)
    (hQ : ∀ h', Heap.ExtBut it s.heap h' → Q none { s with heap := h' }) :
    wpAny (model prog w) A (pyNext (.ref z)) Q E s := by
  have hT : s.TypeIs (.ref z) "map" := ⟨_, hz, rfl⟩
  unfold pyNext
  refine wpAny_bind (wpAny_attempt (wpAny_callSpecial?_slot (name := Str.ofString "__next__") hT slot_map_next
    (wpAny_call_entry slot_map_next hT entry_map_next (map_next_end hh hz hTI h1 hl hx fun h' e hk he => ?_) (args_map_next_1 _))))
  obtain ⟨o, ho, hc⟩ := he
  refine wpAny_bind (wpAny_isInstance (T := "StopIteration") (b := true) ⟨o, ho, hc⟩ isSubtype_stop ?_)
  exact wpAny_pure (hQ _ hk)

theorem pyIter_map {z TI : Addr} {Q : Value → Shared → Prop} (hz : IsMap s.heap z TI) (h : Q (.ref z) s) : wpAny (model prog w) A (pyIter (.ref z)) Q E s := by
  have hT : s.TypeIs (.ref z) "map" := ⟨_, hz, rfl⟩
  refine wpAny_pyIter_slot hT slot_map_iter (wpAny_call_entry slot_map_iter hT entry_map_iter ?_ (args_map_iter_1 _))
  show wpAny _ _ (ret (.ref z)) _ _ s
  exact wpAny_pure ⟨_, rfl, "map", _, hT, slot_map_next.lookup, h⟩

theorem walks_map (hh : A.handled = none) (z TI it l : Addr) (D : MapApart z TI it l) (vs : List Value) (ws : List Str) (hw : StrsAre vs ws) (hfit : ∀ x ∈ ws, x.length ≤ 5592405) :
    Walks prog w A z [z, TI, it, l] [it] ws.length (fun i v => ∃ y u, ws[i]? = some y ∧ v = .str (Txt.capitalize y) u)
      (fun i h => IsMap h z TI ∧ IsOne h TI (.ref it) ∧ h.IsListIter it l i ∧ h.IsList l vs.toArray) where
  sub := fun c hc => by simp at hc ⊢; simp [hc]
  frame := fun i h h' hst hk => by
    obtain ⟨hz, hTI, h1, hl⟩ := hst
    exact ⟨hk z (by simp) _ hz, hk TI (by simp) _ hTI, h1.at fun o e => hk it (by simp) o e, hl.at fun o e => hk l (by simp) o e⟩
  item := fun i s Q E hi hst hQ => by
    obtain ⟨hz, hTI, h1, hl⟩ := hst
    obtain ⟨t, e⟩ := hw.get i ws[i] (List.getElem?_eq_getElem hi)
    refine pyNext_map_item D hz hTI h1 hl (x := ws[i]) (t := t) (by simpa using e) (hfit _ (List.getElem_mem hi)) fun h' t' tk a1 a2 => ?_
    exact hQ _ h' tk ⟨_, t', List.getElem?_eq_getElem hi, rfl⟩ ⟨a2.extBut _ _ D.zit hz, a2.extBut _ _ D.TIit hTI, a1, hl.extBut a2.extBut D.lit⟩
      fun c o hc e => a2.extBut _ _ (fun x => hc (by simp [x])) e
  done := fun s Q E hst hQ => by
    obtain ⟨hz, hTI, h1, hl⟩ := hst
    have hlen : vs.length = ws.length := hw.length
    refine pyNext_map_end hh hz hTI h1 hl (by simp [hlen]) fun h' hk => hQ h' s.toks fun c o hc e => hk c o (fun x => hc (by simp [x])) e
  self := fun i s Q E hst hQ => pyIter_map hst.1 hQ
end

section
variable {prog : Program} {w : World} {A : Around} {E : Value → Shared → Prop} {s : Shared} {I : Addr} {fp wr : List Addr} {n : Nat} {P : Nat → Value → Prop} {St : Nat → Heap → Prop}

/-- what a map object hands out, as a list -/
theorem collect_map {Q : List Value → Shared → Prop} (W : Walks prog w A.in1 I fp wr n P St) (hT : ∀ i h, St i h → ∃ o, h.get? I = some o ∧ o.cls = .type "map") (hst : St 0 s.heap)
    (hfp : ∀ b ∈ fp, b < s.heap.objs.size) (hI : I ∈ fp) (hn : n ≤ sizeLine)
    (hQ : ∀ h' tk acc, (∀ b o, b ∉ wr → s.heap.get? b = some o → h'.get? b = some o) → ItemsOf P acc n → Q acc.toList { s with heap := h', toks := tk }) : wpAny (model prog w) A (collect (.ref I)) Q E s := by
  have hSf : s.heap.objs.size ∉ fp := fun hm => Nat.lt_irrefl _ (hfp _ hm)
  have hSI : s.heap.objs.size ≠ I := fun e => hSf (e ▸ hI)
  have hSw : s.heap.objs.size ∉ wr := fun h => hSf (W.sub _ h)
  generalize hL : s.heap.objs.size = S at hSf hSI hSw
  unfold collect
  refine wpAny_bind (wpAny_runValue (codeAny_builtin F.entry_proto_collect ?_))
  rw [Around.under_plainId F.plain_proto_collect _]
  show wpAny _ A.in1 (newList [] >>= fun l => again (.builtin "list.__iadd__" ⟨[l, .ref I], []⟩)) _ _ s
  refine wpAny_bind (wpAny_newObj_type ?_)
  refine wpAny_pure ⟨plainId_quiet F.plain_list_iadd _, codeAny_builtin F.entry_list_iadd ?_⟩
  rw [Around.under_plainId F.plain_list_iadd _, hL]
  generalize hH : s.heap.push { cls := .type "list", data := .seq ([] : List Value).toArray } = H
  have up : ∀ b o, s.heap.get? b = some o → H.get? b = some o := fun b o e => hH ▸ Heap.get?_push_of_some _ e
  have hS₁ : H.get? S = some { cls := .type "list", data := .seq ([] : List Value).toArray } := by rw [← hH, ← hL]; exact Heap.get?_push_size _ rfl
  have hst₁ : St 0 H := W.frame 0 _ _ hst fun b _ o e => up b o e
  have ty : ∀ (t : Nat), Shared.TypeIs { s with heap := H, toks := t } (.ref I) "map" := fun t => hT 0 H hst₁
  show wpAny _ A.in1 (Builtin.List.listExtendWith (.ref S) (.ref I) (.ref S)) _ _ _
  unfold Builtin.List.listExtendWith
  refine wpAny_bind (wpAny_typeOf (ty _) ?_)
  have h1 : Builtin.List.listSameRef (.ref S) (.ref I) = false := by simp [Builtin.List.listSameRef, hSI]
  rw [if_neg (by rw [h1]; decide)]
  refine wpAny_bind (W.self 0 _ _ _ hst₁ ?_)
  refine wpAny_bind (wpAny_holding ?_)
  unfold Builtin.List.listLengthHint
  refine wpAny_bind (wpAny_specialOf (ty _) map_no_len ?_)
  show wpAny _ A.in1 (specialOf (Value.ref I) (Str.ofString "__length_hint__") >>= _) _ _ _
  refine wpAny_bind (wpAny_specialOf (ty _) map_no_hint ?_)
  refine wpAny_pure ?_
  show wpAny _ A.in1 (rule "list.extend.makes-room" >>= fun _ => Builtin.List.listTouch (.ref S) >>= fun _ =>
    again (.builtin "list.extend.loop" ⟨[.ref S, .ref I, .ref S], []⟩)) _ _ _
  refine wpAny_bind (wpAny_rule (wpAny_bind ?_))
  show wpAny _ A.in1 (updateSeq S (·.push .none) >>= fun _ => updateSeq S (·.pop)) _ _ _
  refine wpAny_bind (wpAny_updateSeq hS₁ rfl ?_)
  have hS₂ := Heap.get?_update_self (Obj.mapSeq (·.push Value.none)) hS₁ rfl
  refine wpAny_updateSeq hS₂ rfl ?_
  have hS₃ := Heap.get?_update_self (Obj.mapSeq (·.pop)) hS₂ rfl
  have oth : ∀ b o, b ≠ S → H.get? b = some o → ((H.update S (Obj.mapSeq (·.push Value.none))).update S (Obj.mapSeq (·.pop))).get? b = some o :=
    fun b o hb e => (Heap.get?_update_other _ _ (Ne.symm hb)).trans ((Heap.get?_update_other _ _ (Ne.symm hb)).trans e)
  have hst₃ := W.frame 0 _ ((H.update S (Obj.mapSeq (·.push Value.none))).update S (Obj.mapSeq (·.pop))) hst₁ fun b hb o e => oth b o (fun h => hSf (h ▸ hb)) e
  refine wpAny_pure ⟨plainId_quiet F.plain_extend_loop _, codeAny_extend_loopS W.toS hn S hSf _ n 0 _ _ _ rfl (Nat.zero_le _) hst₃ hS₃ (ItemsOf.nil P) fun s' acc' c' hm hS' hacc => ?_⟩
  show wpAny _ A (load S >>= _) _ _ s'
  refine wpAny_bind (wpAny_load hS' ?_)
  rw [Moved.eq_with hm]
  refine wpAny_pure (hQ s'.heap s'.toks acc' (fun b o hb e => hm.heap b o (fun hm' => ?_) (oth b o ?_ (up b o e))) hacc)
  · rcases List.mem_cons.mp hm' with h | h
    · exact absurd (Heap.lt_size e) (by rw [h, hL]; exact Nat.lt_irrefl _)
    · exact hb h
  · intro h
    exact absurd (Heap.lt_size e) (by rw [h, hL]; exact Nat.lt_irrefl _)
end

/-- a fresh map object over the list l, as the walk's facts bear it -/
structure MapOn (h₀ : Heap) (L : Addr) (news : List (Addr × Obj)) (h : Heap) (z l : Addr) (vs : List Value) : Prop where
  out : ∃ TI it, IsMap h z TI ∧ IsOne h TI (.ref it) ∧ h.IsListIter it l 0 ∧ h.IsList l vs.toArray ∧ MapApart z TI it l ∧ h₀.get? it = none ∧ L ≠ it ∧ ∀ p ∈ news, p.1 ≠ it

section
variable {prog : Program} {w : World} {A : Around} {E : Value → Shared → Prop} {s : Shared} {h₀ : Heap} {L : Addr} {m : Str → Option Value} {news : List (Addr × Obj)}

theorem map_K {l : Addr} {vs : List Value} {Q : Value → Shared → Prop} (F : Fr h₀ L s.heap m) (N : News h₀ L s.heap news) (hl : s.heap.IsList l vs.toArray)
    (h : ∀ h' z, Fr h₀ L h' m → News h₀ L h' news → MapOn h₀ L news h' z l vs → Q (.ref z) { s with heap := h' }) :
    wpAny (model prog w) A (call (.type "map") [.builtin "str.capitalize", .ref l]) Q E s := by
  refine call_map hl fun h' hz h1 hi _ hk => ?_
  have hlt : l < s.heap.objs.size := by obtain ⟨_, e, _⟩ := hl; exact Heap.lt_size e
  refine h h' _ (F.keeps hk) (N.grown hk) ⟨_, _, hz, h1, hi, hl.at fun o e => hk _ o e, ⟨?_, ?_, Nat.ne_of_lt hlt⟩, next_is_new F, Nat.ne_of_lt F.ns.lt, fun p hp => Nat.ne_of_lt (Heap.lt_size (N p hp).1)⟩
  · show (s.heap.objs.size + 2 : Nat) ≠ s.heap.objs.size
    exact Nat.ne_of_gt (Nat.lt_add_of_pos_right (by decide))
  · show s.heap.objs.size + 1 ≠ s.heap.objs.size
    exact Nat.ne_of_gt (Nat.lt_succ_self _)

theorem caps_of {ws : List Str} {l : List (Str × Tok)} (h : ItemsOf (fun i v => ∃ y u, ws[i]? = some y ∧ v = .str (Txt.capitalize y) u) (strValues l).toArray ws.length) : l.map (·.1) = ws.map Txt.capitalize := by
  have hsz : l.length = ws.length := by simpa [strValues] using h.1
  apply List.ext_getElem?
  intro j
  by_cases hj : j < l.length
  · obtain ⟨y, u, hy, hv⟩ := h.2 j (.str l[j].1 l[j].2) (by simp [strValues, List.getElem?_eq_getElem hj])
    injection hv with h1 _
    simp [List.getElem?_eq_getElem hj, hy, h1]
  · rw [List.getElem?_eq_none (by simpa using Nat.le_of_not_lt hj), List.getElem?_eq_none (by simp; omega)]

theorem join_map {z l : Addr} {vs : List Value} {ws : List Str} {x : Str} {t : Tok} {Q : Value → Shared → Prop} (hh : A.handled = none) (F : Fr h₀ L s.heap m) (N : News h₀ L s.heap news)
    (M : MapOn h₀ L news s.heap z l vs) (hw : StrsAre vs ws) (hfit : ∀ y ∈ ws, y.length ≤ 5592405) (hn : ws.length ≤ 16777216) (hok : JoinOk x (ws.map Txt.capitalize) = true)
    (hq : ∀ h' k t', Fr h₀ L h' m → News h₀ L h' news → Q (.str (Txt.join x (ws.map Txt.capitalize)) t') { s with heap := h', toks := k }) :
    wpAny (model prog w) A (call (.builtin "str.join") [.str x t, .ref z]) Q E s := by
  obtain ⟨TI, it, hz, h1, hi, hl, D, hn0, hLit, hnews⟩ := M.out
  have W := walks_map (prog := prog) (w := w) (A := A.in1.in1) hh z TI it l D vs ws hw hfit
  refine wpAny_call (codeAny_call_builtin PySem.F.slot_str_join.plain PySem.F.entry_str_join (PySem.F.slot_str_join.check _ _ _ _ _ _ _ _ (typeIs_str _ _ _) (PySem.F.args_str_join_2 _ _) ?_))
  rw [join_tree_other]
  refine wpAny_bind (wpAny_typeOf (T := "map") ⟨_, hz, rfl⟩ ?_)
  show wpAny _ A.in1 ((pyIter (.ref z)).tryCatch _ >>= fun it => collect it >>= fun items => joinTail x items) _ _ s
  refine wpAny_bind (wpAny_tryCatch (pyIter_map hz ?_))
  refine wpAny_bind (collect_map W (fun i h st => ⟨_, st.1, rfl⟩) ⟨hz, h1, hi, hl⟩ ?_ (by simp) (by rw [sizeLine_eq]; exact hn) fun h' tk acc hk hacc => ?_)
  · intro b hb
    simp only [List.mem_cons, List.not_mem_nil, or_false] at hb
    rcases hb with rfl | rfl | rfl | rfl
    · exact Heap.lt_size hz
    · exact Heap.lt_size h1
    · obtain ⟨_, e, _⟩ := hi; exact Heap.lt_size e
    · obtain ⟨_, e, _⟩ := hl; exact Heap.lt_size e
  obtain ⟨ls, hls⟩ := exists_strValues acc.toList fun v hv => by
    obtain ⟨j, hj, rfl⟩ := Array.mem_iff_getElem.mp (Array.mem_toList_iff.mp hv)
    obtain ⟨y, u, _, e⟩ := hacc.2 j _ (Array.getElem?_eq_getElem hj)
    exact ⟨_, _, e⟩
  rw [← hls]
  have ht : ls.map (·.1) = ws.map Txt.capitalize := caps_of (by rw [hls]; simpa using hacc)
  have hok' : tooLong ((ls.map (·.1)).toArray.foldl (· + ·.length + x.length) 0) = false := by
    rw [ht]; unfold JoinOk at hok; simpa using hok
  have g : Gives (joinTail x (strValues ls)) (joinMade x ls) := by
    have g0 := gives_joinTail x ls hok'
    cases ls with
    | nil => exact g0
    | cons p r => cases r with
      | nil => exact g0
      | cons q r' => exact g0
  refine g prog w A (wants Q E) _ (post_join ls ⟨joinFit_length hok', fun t' k => ?_⟩)
  rw [ht]
  exact hq h' k t' (LCg.fr_but F hk hLit hn0) (LCg.news_but N hk hnews)
end

section
variable {prog : Program} {w : World} {A : Around} {E : Value → Shared → Prop} {s : Shared} {K : Frag} {h₀ : Heap} {L : Addr} {m : Str → Option Value}
theorem strcap_attr {expr : Bool} {Q : Value → Shared → Prop} (F : Fr h₀ L s.heap m) (X₀ : K.In h₀)
    (e : findCls K (.type "str") (.type "type") (PySem.Str.ofString "capitalize") = some (.val (.builtin "str.capitalize"))) (h : Q (.builtin "str.capitalize") { s with toks := s.toks + 1 }) :
    wpAny (model prog w) A (getAttr (.type "str") (PySem.Str.ofString "capitalize") expr) Q E s := by
  have X := X₀.keeps F.keep
  have hstub : opaqueClassAbove (.type "str") = pure none := by unfold opaqueClassAbove; dsimp only; rw [(by decide +kernel : Manifest.isStub "str" = false)]; rfl
  have ht : kitMeta "str" = true := by decide +kernel
  have L0 : Looks (model prog w) s.heap (typeOf (.type "str")) (.type "type") := Looks.of_pure (kitMeta_of ht)
  have LO : Looks (model prog w) s.heap (opaqueClassAbove (.type "str")) none := Looks.of_pure hstub
  have hg : findIn K (.type "type") "__getattribute__" = some (some (.builtin "type.__getattribute__")) := type_tga
  refine cls_open X LO L0 hg (looks_hook X (r := none) (by rfl)) (by show subIn K _ _ = _; rfl) e ?_
  exact wpAny_pure (handed_on rfl h)
end
end Mine

namespace Mine
open Builtin Builtin.Str StrLaws

abbrev cs (x : Str) : List Nat := x.cps.toList
theorem cs_len (x : Str) : (cs x).length = x.length := by simp [cs, Str.length]
theorem cs_app (x y : Str) : cs (x ++ y) = cs x ++ cs y := by simp [cs, Str.cps_append]
theorem cs_ext {x y : Str} (h : cs x = cs y) : x = y := Str.ext' (Array.toList_inj.mp h)

def up (c : Nat) : Nat := if 97 ≤ c ∧ c ≤ 122 then c - 32 else c
def lo (c : Nat) : Nat := if 65 ≤ c ∧ c ≤ 90 then c + 32 else c
def Asc (x : Str) : Prop := ∀ c ∈ cs x, c < 128
theorem Asc.app {x y : Str} (hx : Asc x) (hy : Asc y) : Asc (x ++ y) := fun c hc => by
  rw [cs_app] at hc
  rcases List.mem_append.mp hc with h | h
  · exact hx c h
  · exact hy c h

theorem upperOf_asc {c : Nat} (h : c < 128) : Unicode.upperOf c = [up c] := (by decide +kernel : ∀ c, c < 128 → Unicode.upperOf c = [up c]) c h
theorem titleOf_asc {c : Nat} (h : c < 128) : Unicode.titleOf c = [up c] := (by decide +kernel : ∀ c, c < 128 → Unicode.titleOf c = [up c]) c h
theorem lowerOf_asc {c : Nat} (h : c < 128) : Unicode.lowerOf c = [lo c] := (by decide +kernel : ∀ c, c < 128 → Unicode.lowerOf c = [lo c]) c h
theorem lowerAt_asc {a : Array Nat} {i c : Nat} (e : a[i]? = some c) (h : c < 128) : Unicode.lowerAt a i = [lo c] := by
  unfold Unicode.lowerAt
  rw [e]
  show (if (c == 0x3A3 && Unicode.endsWord a i) = true then _ else _) = _
  rw [if_neg, lowerOf_asc h]
  intro hc
  have : c = 0x3A3 := by simpa using (Bool.and_eq_true_iff.mp hc).1
  omega

theorem flat_ones : ∀ l : List Nat, (l.map (Array.toList ∘ fun d => #[d])).flatten = l
  | [] => rfl
  | a :: r => by
    show [a] ++ (r.map (Array.toList ∘ fun d => #[d])).flatten = a :: r
    rw [flat_ones r]; rfl
/-- a text put together sign by sign, one sign for one -/
theorem placed_one (x : Str) (f : Nat → Nat → List Nat) (g : Nat → Nat → Nat) (h : ∀ (i c : Nat), x.cps[i]? = some c → f i c = [g i c]) : (placed x f).toList = (cs x).mapIdx g := by
  have e : (x.cps.mapIdx fun i c => (f i c).toArray) = ((x.cps.mapIdx g).map fun d => #[d]) := by
    apply Array.ext_getElem?
    intro i
    rw [Array.getElem?_mapIdx, Array.getElem?_map, Array.getElem?_mapIdx]
    cases hc : x.cps[i]? with
    | none => rfl
    | some c => simp [h i c hc]
  unfold placed
  rw [e]
  simp only [cs, Array.toList_flatten, Array.toList_map, List.map_map, Array.toList_mapIdx]
  exact flat_ones _
theorem mem_of_at {x : Str} {i c : Nat} (e : x.cps[i]? = some c) : c ∈ cs x := by
  have h : (cs x)[i]? = some c := by rw [← e]; simp [cs]
  exact List.mem_of_getElem? h
theorem mapIdx_plain (l : List Nat) (g : Nat → Nat) : l.mapIdx (fun _ c => g c) = l.map g := by
  apply List.ext_getElem?
  intro i
  simp
theorem lower_cs {x : Str} (h : Asc x) : cs (Txt.lower x) = (cs x).map lo := by
  show (placed x fun i _ => Unicode.lowerAt x.cps i).toList = _
  rw [placed_one x _ (fun _ c => lo c) fun i c e => lowerAt_asc e (h c (mem_of_at e)), mapIdx_plain]
theorem upper_cs {x : Str} (h : Asc x) : cs (Txt.upper x) = (cs x).map up := by
  show (placed x fun _ c => Unicode.upperOf c).toList = _
  rw [placed_one x _ (fun _ c => up c) fun i c e => upperOf_asc (h c (mem_of_at e)), mapIdx_plain]
theorem cap_cs {x : Str} (h : Asc x) : cs (Txt.capitalize x) = (cs x).mapIdx fun i c => if i = 0 then up c else lo c := by
  unfold Txt.capitalize
  split
  · rename_i h0
    have : cs x = [] := List.eq_nil_of_length_eq_zero (by rw [cs_len]; simpa using h0)
    rw [this]; rfl
  · show (placed x fun i c => if i == 0 then Unicode.titleOf c else Unicode.lowerAt x.cps i).toList = _
    refine placed_one x _ _ fun i c e => ?_
    by_cases hi : i = 0
    · subst hi; simp [titleOf_asc (h c (mem_of_at e))]
    · simp [hi, lowerAt_asc e (h c (mem_of_at e))]
theorem sub_cs (x : Str) (i j : Nat) : cs (strSub x i j) = ((cs x).drop i).take (j - i) := strSub_toList x i j
theorem Asc.sub {x : Str} (h : Asc x) (i j : Nat) : Asc (strSub x i j) := fun c hc => by
  rw [sub_cs] at hc
  exact h c (List.mem_of_mem_drop (List.mem_of_mem_take hc))
theorem strKind_asc {x : Str} (h : Asc x) : Builtin.Str.strKind x = 1 := by
  unfold Builtin.Str.strKind
  rw [if_pos]
  rw [← Array.all_toList, List.all_eq_true]
  intro c hc
  have := h c hc
  exact decide_eq_true (by omega)

/-- the places where y stands in x -/
def AtL (X Y : List Nat) (i : Nat) : Prop := i + Y.length ≤ X.length ∧ (X.drop i).take Y.length = Y
theorem at_iff (x y : Str) (i : Nat) : At x y x.length i ↔ AtL (cs x) (cs y) i := by
  unfold At AtL
  rw [subAt_eq, cs_len, cs_len, beq_iff_eq]

/-- every place is covered by a cut -/
theorem occ_cover_run (s sub : Str) (hi limit : Nat) (hw : 0 < sub.length) : ∀ (n a : Nat) (st : Array Nat × Nat), st.fst.size ≤ a → a + n ≤ limit →
    (∀ j, j < a → At s sub hi j → ∃ c ∈ st.fst.toList, c ≤ j ∧ j < c + sub.length) → (st.snd = 0 ∨ ∃ c ∈ st.fst.toList, st.snd = c + sub.length ∧ c < a) →
    ∀ j, j < a + n → At s sub hi j → ∃ c ∈ (forIn (List.range' a n) st (occBody s sub hi limit)).run.fst.toList, c ≤ j ∧ j < c + sub.length
  | 0, a, st, _, _, hc, _, j, hj, h => hc j hj h
  | n + 1, a, st, hs, hl, hc, hf, j, hj, h => by
    rw [List.range'_succ, List.forIn_cons]
    unfold occBody
    split
    · rename_i hcond
      refine occ_cover_run s sub hi limit hw n (a + 1) _ ?_ (by omega) ?_ ?_ j (by omega) h
      · show (st.fst.push a).size ≤ a + 1
        rw [Array.size_push]; omega
      · intro j hj' hat
        show ∃ c ∈ (st.fst.push a).toList, _
        rw [Array.toList_push]
        by_cases e : j = a
        · exact ⟨a, by simp, by omega, by omega⟩
        · obtain ⟨c, hcm, h1, h2⟩ := hc j (by omega) hat
          exact ⟨c, List.mem_append_left _ hcm, h1, h2⟩
      · right
        refine ⟨a, ?_, rfl, by omega⟩
        show a ∈ (st.fst.push a).toList
        rw [Array.toList_push]; simp
    · rename_i hcond
      refine occ_cover_run s sub hi limit hw n (a + 1) _ (by show st.fst.size ≤ a + 1; omega) (by omega) ?_ ?_ j (by omega) h
      · intro j hj' hat
        show ∃ c ∈ st.fst.toList, _
        by_cases e : j = a
        · subst e
          rcases hf with h0 | ⟨c, hcm, h1, h2⟩
          · exact absurd ⟨⟨⟨by omega, by omega⟩, hat.1⟩, hat.2⟩ hcond
          · by_cases hle : st.snd ≤ j
            · exact absurd ⟨⟨⟨by omega, hle⟩, hat.1⟩, hat.2⟩ hcond
            · exact ⟨c, hcm, by omega, by omega⟩
        · exact hc j (by omega) hat
      · rcases hf with h0 | ⟨c, hcm, h1, h2⟩
        · exact .inl h0
        · exact .inr ⟨c, hcm, h1, by omega⟩
theorem occ_cover (x y : Str) (hw : 0 < y.length) (j : Nat) (h : At x y x.length j) : ∃ c ∈ occurrences x y 0 x.length (x.length + 1), c ≤ j ∧ j < c + y.length := by
  rw [occ_eq]
  have hj := h.1
  refine occ_cover_run x y x.length (x.length + 1) hw (x.length + 1 - 0) 0 (#[], 0) (by simp) (by omega) (fun j hj => by omega) (.inl rfl) j (by omega) h

/-- what split cuts -/
theorem split_cuts {x y : Str} (hx : Asc x) (hy : Asc y) (hw : 0 < y.length) : ∃ C f, Txt.split x y = partsFrom x y.length 0 C ∧ ChainTo x y x.length 0 C f ∧
    ∀ j, AtL (cs x) (cs y) j → ∃ c ∈ C, c ≤ j ∧ j < c + y.length := by
  unfold Txt.split
  rw [strKind_asc hx, strKind_asc hy]
  by_cases h1 : x.length < y.length
  · rw [if_pos (by simp [h1])]
    refine ⟨[], 0, ?_, rfl, fun j hj => ?_⟩
    · show [x] = [strSub x 0 x.length]
      rw [sub_whole]
    · have := hj.1
      rw [cs_len, cs_len] at this
      omega
  · rw [if_neg (by simp [h1])]
    obtain ⟨f, hf⟩ := occ_chain x y (x.length + 1)
    refine ⟨occurrences x y 0 x.length (x.length + 1), f, ?_, hf, fun j hj => occ_cover x y hw j ((at_iff x y j).mpr hj)⟩
    split
    · rename_i he
      have : occurrences x y 0 x.length (x.length + 1) = [] := by simpa using he
      rw [this]
      show [x] = [strSub x 0 x.length]
      rw [sub_whole]
    · exact partsBetween_eq x _ _

theorem chain_le {x y : Str} : ∀ {C : List Nat} {a f : Nat}, ChainTo x y x.length a C f → ∀ c ∈ C, a ≤ c
  | [], _, _, _, c, hc => nomatch hc
  | d :: r, a, f, h, c, hc => by
    rcases List.mem_cons.mp hc with rfl | hc
    · exact h.1
    · have := chain_le h.2.2 c hc
      have := h.1
      omega
theorem chain_at {x y : Str} : ∀ {C : List Nat} {a f : Nat}, ChainTo x y x.length a C f → ∀ c ∈ C, AtL (cs x) (cs y) c
  | [], _, _, _, c, hc => nomatch hc
  | d :: r, a, f, h, c, hc => by
    rcases List.mem_cons.mp hc with rfl | hc
    · exact (at_iff x y c).mp h.2.1
    · exact chain_at h.2.2 c hc
theorem chain_gap {x y : Str} : ∀ {C : List Nat} {a f : Nat}, ChainTo x y x.length a C f → ∀ c ∈ C, ∀ d ∈ C, c < d → c + y.length ≤ d
  | [], _, _, _, c, hc, _, _, _ => nomatch hc
  | e :: r, a, f, h, c, hc, d, hd, hlt => by
    rcases List.mem_cons.mp hc with rfl | hc'
    · rcases List.mem_cons.mp hd with rfl | hd'
      · omega
      · exact chain_le h.2.2 d hd'
    · rcases List.mem_cons.mp hd with rfl | hd'
      · have := chain_le h.2.2 c hc'
        omega
      · exact chain_gap h.2.2 c hc' d hd' hlt
theorem join_cons (z p q : Str) (r : List Str) : Str.join z (p :: q :: r) = p ++ z ++ Str.join z (q :: r) := rfl

theorem parts_two (x : Str) (g : Str → Str) (w : Nat) (z : Str) (a c : Nat) (r : List Nat) : Str.join z ((partsFrom x w a (c :: r)).map g) = g (strSub x a c) ++ z ++ Str.join z ((partsFrom x w (c + w) r).map g) := by
  obtain ⟨p, q, e⟩ := partsFrom_ne x w (c + w) r
  show Str.join z (g (strSub x a c) :: (partsFrom x w (c + w) r).map g) = _
  rw [e]
  rfl

theorem map_neg {P : Prop} [Decidable P] (h : ¬ P) (o : Option Nat) (f g : Nat → Nat) : (o.map fun d => if P then f d else g d) = o.map g := by simp only [h, if_false]
theorem map_pos {P : Prop} [Decidable P] (h : P) (o : Option Nat) (f g : Nat → Nat) : (o.map fun d => if P then f d else g d) = o.map f := by simp only [h, if_true]
theorem map_same (o : Option Nat) : (o.map fun d => d) = o := by cases o <;> rfl
/-- capwords' text, sign by sign -/
theorem cap_join {x y : Str} (hx : Asc x) (hin : ∀ c ∈ cs y, up c = c ∧ lo c = c) : ∀ (C : List Nat) (a f : Nat), ChainTo x y x.length a C f → ∀ k,
    (cs (Str.join y ((partsFrom x y.length a C).map Txt.capitalize)))[k]? = ((cs x)[a + k]?).map fun d => if k = 0 ∨ ∃ c ∈ C, a + k = c + y.length then up d else lo d
  | [], a, f, _, k => by
    show (cs (Txt.capitalize (strSub x a x.length)))[k]? = _
    rw [cap_cs (hx.sub a x.length), List.getElem?_mapIdx, sub_cs]
    have e : ((cs x).drop a).take (x.length - a) = (cs x).drop a := List.take_of_length_le (by rw [List.length_drop, cs_len]; exact Nat.le_refl _)
    rw [e, List.getElem?_drop]
    simp
  | c :: r, a, f, h, k => by
    have hac : a ≤ c := h.1
    have hat := (at_iff x y c).mp h.2.1
    have hcw : c + y.length ≤ x.length := h.2.1.1
    rw [parts_two, cs_app, cs_app]
    have l1 : (cs (Txt.capitalize (strSub x a c))).length = c - a := by
      rw [cap_cs (hx.sub a c), List.length_mapIdx, sub_cs, List.length_take, List.length_drop, cs_len]
      omega
    have l2 : (cs y).length = y.length := cs_len y
    have ih := cap_join hx hin r (c + y.length) f h.2.2
    by_cases hk1 : k < c - a
    · rw [List.getElem?_append_left (by rw [List.length_append, l1]; omega), List.getElem?_append_left (by omega), cap_cs (hx.sub a c), List.getElem?_mapIdx, sub_cs, List.getElem?_take_of_lt hk1, List.getElem?_drop]
      have hno : ¬ ∃ c' ∈ c :: r, a + k = c' + y.length := by
        rintro ⟨c', hc', e⟩
        have := chain_le h.2.2
        rcases List.mem_cons.mp hc' with rfl | hc'
        · omega
        · have := chain_le h.2.2 c' hc'
          omega
      have e6 : (k = 0 ∨ ∃ c' ∈ c :: r, a + k = c' + y.length) ↔ k = 0 := ⟨fun h => h.resolve_right hno, .inl⟩
      simp only [e6]
    · by_cases hk2 : k < c - a + y.length
      · rw [List.getElem?_append_left (by rw [List.length_append, l1]; omega), List.getElem?_append_right (by omega), l1]
        have hx1 : (cs x)[a + k]? = (cs y)[k - (c - a)]? := by
          have e2 := congrArg (fun l : List Nat => l[k - (c - a)]?) hat.2
          rw [l2, List.getElem?_take_of_lt (by omega), List.getElem?_drop] at e2
          rw [← e2]
          congr 1
          omega
        rw [hx1]
        cases hy : (cs y)[k - (c - a)]? with
        | none => rfl
        | some d =>
          have hd := hin d (List.mem_of_getElem? hy)
          simp [hd.1, hd.2]
      · rw [List.getElem?_append_right (by rw [List.length_append, l1]; omega), List.length_append, l1, l2, ih]
        have e3 : c + y.length + (k - (c - a + y.length)) = a + k := by omega
        rw [e3]
        congr 1
        funext d
        have e4 : (k - (c - a + y.length) = 0 ∨ ∃ c' ∈ r, a + k = c' + y.length) ↔ (k = 0 ∨ ∃ c' ∈ c :: r, a + k = c' + y.length) := by
          constructor
          · rintro (h0 | ⟨c', hc', e⟩)
            · exact .inr ⟨c, List.mem_cons_self, by omega⟩
            · exact .inr ⟨c', List.mem_cons_of_mem _ hc', e⟩
          · rintro (h0 | ⟨c', hc', e⟩)
            · left; omega
            · rcases List.mem_cons.mp hc' with rfl | hc'
              · left; omega
              · exact .inr ⟨c', hc', e⟩
        simp only [e4]

/-- a pair's text, sign by sign: the last sign of each cut is q -/
theorem rep_join {x m : Str} {p q : Nat} : ∀ (C : List Nat) (a f : Nat), ChainTo x (m ++ ⟨#[p]⟩) x.length a C f → ∀ k,
    (cs (Str.join (m ++ ⟨#[q]⟩) (partsFrom x (m ++ ⟨#[p]⟩).length a C)))[k]? = ((cs x)[a + k]?).map fun d => if ∃ c ∈ C, a + k = c + m.length then q else d
  | [], a, f, _, k => by
    show (cs (strSub x a x.length))[k]? = _
    rw [sub_cs]
    have e : ((cs x).drop a).take (x.length - a) = (cs x).drop a := List.take_of_length_le (by rw [List.length_drop, cs_len]; exact Nat.le_refl _)
    rw [e, List.getElem?_drop]
    simp
  | c :: r, a, f, h, k => by
    have hac : a ≤ c := h.1
    have hat := (at_iff x _ c).mp h.2.1
    have hw : (m ++ (⟨#[p]⟩ : Str)).length = m.length + 1 := by rw [Str.length_append]; rfl
    have hcw : c + (m.length + 1) ≤ x.length := by have := h.2.1.1; rw [hw] at this; exact this
    have pt := parts_two x id (m ++ ⟨#[p]⟩).length (m ++ ⟨#[q]⟩) a c r
    simp only [List.map_id, id_eq] at pt
    rw [pt, cs_app, cs_app, cs_app]
    have l1 : (cs (strSub x a c)).length = c - a := by rw [sub_cs, List.length_take, List.length_drop, cs_len]; omega
    have l2 : (cs m).length = m.length := cs_len m
    have l3 : cs (⟨#[q]⟩ : Str) = [q] := rfl
    have ih := rep_join (q := q) r _ f h.2.2
    rw [l3]
    have hy : cs (m ++ (⟨#[p]⟩ : Str)) = cs m ++ [p] := cs_app _ _
    have later : ∀ c' ∈ r, c + (m.length + 1) ≤ c' := fun c' hc' => by have := chain_le h.2.2 c' hc'; rw [hw] at this; exact this
    by_cases hk1 : k < c - a
    · rw [List.getElem?_append_left (by simp only [List.length_append, l1]; omega), List.getElem?_append_left (by omega), sub_cs, List.getElem?_take_of_lt hk1, List.getElem?_drop]
      have hno : ¬ ∃ c' ∈ c :: r, a + k = c' + m.length := by
        rintro ⟨c', hc', e⟩
        rcases List.mem_cons.mp hc' with rfl | hc'
        · omega
        · have := later c' hc'
          omega
      rw [map_neg hno, map_same]
    · by_cases hk2 : k < c - a + m.length
      · rw [List.getElem?_append_left (by simp only [List.length_append, l1, l2]; omega), List.getElem?_append_right (by omega), l1, List.getElem?_append_left (by omega)]
        have hx1 : (cs x)[a + k]? = (cs m)[k - (c - a)]? := by
          have e2 := congrArg (fun l : List Nat => l[k - (c - a)]?) hat.2
          rw [cs_len, hw, List.getElem?_take_of_lt (by omega), List.getElem?_drop, hy, List.getElem?_append_left (by omega)] at e2
          rw [← e2]
          congr 1
          omega
        have hno : ¬ ∃ c' ∈ c :: r, a + k = c' + m.length := by
          rintro ⟨c', hc', e⟩
          rcases List.mem_cons.mp hc' with rfl | hc'
          · omega
          · have := later c' hc'
            omega
        rw [hx1]
        rw [map_neg hno, map_same]
      · by_cases hk3 : k = c - a + m.length
        · rw [List.getElem?_append_left (by simp only [List.length_append, l1, l2, List.length_singleton]; omega), List.getElem?_append_right (by omega), l1, List.getElem?_append_right (by omega), l2]
          have hyes : ∃ c' ∈ c :: r, a + k = c' + m.length := ⟨c, List.mem_cons_self, by omega⟩
          have hin : a + k < (cs x).length := by rw [cs_len]; omega
          have e5 : k - (c - a) - m.length = 0 := by omega
          rw [e5, List.getElem?_eq_getElem hin, map_pos hyes]
          rfl
        · have l4 : (cs (strSub x a c) ++ (cs m ++ [q])).length = c - a + (m.length + 1) := by simp only [List.length_append, l1, l2, List.length_singleton]
          rw [List.getElem?_append_right (by rw [l4]; omega), l4, ih, hw]
          have e3 : c + (m.length + 1) + (k - (c - a + (m.length + 1))) = a + k := by omega
          rw [e3]
          congr 1
          funext d
          have e4 : (∃ c' ∈ r, a + k = c' + m.length) ↔ (∃ c' ∈ c :: r, a + k = c' + m.length) := by
            constructor
            · rintro ⟨c', hc', e⟩
              exact ⟨c', List.mem_cons_of_mem _ hc', e⟩
            · rintro ⟨c', hc', e⟩
              rcases List.mem_cons.mp hc' with rfl | hc'
              · omega
              · exact ⟨c', hc', e⟩
          simp only [e4]
end Mine

namespace Mine
open Builtin Builtin.Str StrLaws

def Signs (m : Str) : Prop := ∀ c ∈ cs m, c = 45 ∨ c = 43
def Text (x : Str) : Prop := ∀ c ∈ cs x, c = 97 ∨ c = 98 ∨ c = 65 ∨ c = 66 ∨ c = 45 ∨ c = 43
theorem Signs.asc {m : Str} (h : Signs m) : Asc m := fun c hc => by rcases h c hc with e | e <;> omega
theorem Text.asc {x : Str} (h : Text x) : Asc x := fun c hc => by rcases h c hc with e | e | e | e | e | e <;> omega
theorem Signs.inert {m : Str} (h : Signs m) : ∀ c ∈ cs m, up c = c ∧ lo c = c := fun c hc => by
  rcases h c hc with e | e <;> subst e <;> exact ⟨by decide, by decide⟩
theorem Signs.text {m : Str} (h : Signs m) : Text m := fun c hc => by rcases h c hc with e | e <;> simp [e]
theorem Text.app {x y : Str} (hx : Text x) (hy : Text y) : Text (x ++ y) := fun c hc => by
  rw [cs_app] at hc
  rcases List.mem_append.mp hc with h | h
  · exact hx c h
  · exact hy c h

/-- (mark + text[:k]).endswith(mark) -/
def endsM (M X : List Nat) (k : Nat) : Bool := (M ++ X.take k).drop k == M
def dueL (M X : List Nat) : List Nat := X.mapIdx fun k c => if endsM M X k = true then up c else lo c
def capw (x m : Str) : Str := Txt.join m ((Txt.split x m).map Txt.capitalize)
def rep1 (x m p q : Str) : Str := Txt.join (m ++ q) (Txt.split x (m ++ p))
def pairs (x m : Str) : Str := Txt.slice (rep1 (rep1 (m ++ Txt.lower x) m (Str.ofString "a") (Str.ofString "A")) m (Str.ofString "b") (Str.ofString "B")) (some (m.length : Int)) none

theorem take_iff (X M : List Nat) (i : Nat) (_ : i + M.length ≤ X.length) : (X.drop i).take M.length = M ↔ ∀ j, j < M.length → X[i + j]? = M[j]? := by
  constructor
  · intro h j hj
    have e : ((X.drop i).take M.length)[j]? = M[j]? := by rw [h]
    rw [List.getElem?_take_of_lt hj, List.getElem?_drop] at e
    exact e
  · intro h
    apply List.ext_getElem?
    intro j
    by_cases hj : j < M.length
    · rw [List.getElem?_take_of_lt hj, List.getElem?_drop]
      exact h j hj
    · rw [List.getElem?_eq_none (by rw [List.length_take]; omega), List.getElem?_eq_none (by omega)]

/-- M ends at k in X -/
abbrev Ends (M X : List Nat) (k : Nat) : Prop := M.length ≤ k ∧ ∀ j, j < M.length → X[k - M.length + j]? = M[j]?
def endsB (M X : List Nat) (k : Nat) : Bool := decide (Ends M X k)
theorem endsB_iff (M X : List Nat) (k : Nat) : endsB M X k = true ↔ Ends M X k := by unfold endsB; exact decide_eq_true_iff
theorem Ends.congr {M X X' : List Nat} (hM : ∀ c ∈ M, c = 45 ∨ c = 43) (h : ∀ (i s : Nat), s = 45 ∨ s = 43 → (X[i]? = some s ↔ X'[i]? = some s)) (k : Nat) : Ends M X k ↔ Ends M X' k := by
  unfold Ends
  refine and_congr_right fun _ => forall_congr' fun j => forall_congr' fun hj => ?_
  rw [List.getElem?_eq_getElem hj]
  exact h _ _ (hM _ (List.getElem_mem hj))

/-- one pair, sign by sign -/
theorem rep_cs {x m : Str} {p q : Nat} (hx : Asc x) (hm : Asc m) (hp : p < 128) (hpm : p ∉ cs m) : cs (rep1 x m ⟨#[p]⟩ ⟨#[q]⟩) = (cs x).mapIdx fun k d => if d = p ∧ endsB (cs m) (cs x) k = true then q else d := by
  have hy : Asc (m ++ ⟨#[p]⟩) := hm.app fun c hc => by
    have hc' : c ∈ [p] := hc
    rw [List.mem_singleton.mp hc']; exact hp
  have hw : (m ++ (⟨#[p]⟩ : Str)).length = m.length + 1 := by rw [Str.length_append]; rfl
  have hyc : cs (m ++ (⟨#[p]⟩ : Str)) = cs m ++ [p] := cs_app _ _
  have lm := cs_len m
  obtain ⟨C, f, hs, hc, hcov⟩ := split_cuts hx hy (by omega)
  show cs (glued (m ++ ⟨#[q]⟩) (Txt.split x (m ++ ⟨#[p]⟩))) = _
  rw [glued_eq_join, hs]
  apply List.ext_getElem?
  intro k
  rw [rep_join C 0 f hc k, List.getElem?_mapIdx, Nat.zero_add]
  cases hd : (cs x)[k]? with
  | none => rfl
  | some d =>
    have hk : k < (cs x).length := (List.getElem?_eq_some_iff.mp hd).1
    have key : (∃ c ∈ C, k = c + m.length) ↔ (d = p ∧ endsB (cs m) (cs x) k = true) := by
      rw [endsB_iff]
      constructor
      · rintro ⟨c, hcC, rfl⟩
        have hat := chain_at hc c hcC
        have h1 := (take_iff (cs x) _ c hat.1).mp hat.2
        rw [hyc] at h1
        rw [List.length_append, List.length_singleton] at h1
        refine ⟨?_, by omega, fun j hj => ?_⟩
        · have h2 := h1 m.length (by omega)
          rw [hd, List.getElem?_append_right (by omega), lm, Nat.sub_self] at h2
          exact Option.some.inj h2
        · have h2 := h1 j (by omega)
          rw [List.getElem?_append_left hj] at h2
          rw [← h2]
          congr 1
          omega
      · rintro ⟨rfl, hmk, hj⟩
        have hat : AtL (cs x) (cs (m ++ (⟨#[d]⟩ : Str))) (k - m.length) := by
          have hb : k - m.length + (cs (m ++ (⟨#[d]⟩ : Str))).length ≤ (cs x).length := by rw [hyc, List.length_append, List.length_singleton]; omega
          refine ⟨hb, (take_iff _ _ _ hb).mpr fun j hj' => ?_⟩
          rw [hyc] at hj' ⊢
          rw [List.length_append, List.length_singleton] at hj'
          by_cases hjl : j < (cs m).length
          · rw [List.getElem?_append_left hjl, ← hj j hjl, lm]
          · have e : j = m.length := by omega
            subst e
            rw [List.getElem?_append_right (by omega), lm, Nat.sub_self]
            have e2 : k - m.length + m.length = k := by omega
            rw [e2, hd]; rfl
        obtain ⟨c, hcC, h1, h2⟩ := hcov _ hat
        rw [hw] at h2
        by_cases e : c = k - m.length
        · exact ⟨c, hcC, by omega⟩
        · exfalso
          have hat' := chain_at hc c hcC
          have h3 := (take_iff (cs x) _ c hat'.1).mp hat'.2
          rw [hyc, List.length_append, List.length_singleton] at h3
          have h4 := h3 m.length (by omega)
          rw [List.getElem?_append_right (by omega), lm, Nat.sub_self] at h4
          have h5 := hj (c + m.length - (k - m.length)) (by omega)
          have e3 : k - (cs m).length + (c + m.length - (k - m.length)) = c + m.length := by omega
          rw [e3, h4] at h5
          exact hpm (List.mem_of_getElem? h5.symm)
    simp only [Option.map_some, key]

theorem lit_a : Str.ofString "a" = ⟨#[97]⟩ := by decide +kernel
theorem lit_A : Str.ofString "A" = ⟨#[65]⟩ := by decide +kernel
theorem lit_b : Str.ofString "b" = ⟨#[98]⟩ := by decide +kernel
theorem lit_B : Str.ofString "B" = ⟨#[66]⟩ := by decide +kernel
theorem lo_up (c : Nat) : lo (up c) = lo c := by
  unfold lo up
  by_cases h : 97 ≤ c ∧ c ≤ 122
  · rw [if_pos h, if_pos (by omega), if_neg (by omega)]; omega
  · rw [if_neg h]

theorem endsM_iff (M X : List Nat) (k : Nat) (hk : k ≤ X.length) : endsM M X k = true ↔ Ends M (M ++ X) (M.length + k) := by
  unfold endsM Ends
  rw [beq_iff_eq]
  have e : (M ++ X.take k).drop k = ((M ++ X).drop k).take M.length := by
    have e1 : M ++ X.take k = (M ++ X).take (M.length + k) := by rw [List.take_length_add_append]
    rw [e1, List.drop_take]
    congr 1
    omega
  rw [e, take_iff (M ++ X) M k (by rw [List.length_append]; omega)]
  constructor
  · intro h
    refine ⟨by omega, fun j hj => ?_⟩
    rw [← h j hj]
    congr 1
    omega
  · rintro ⟨_, h⟩ j hj
    rw [← h j hj]
    congr 1
    omega

/-- slices within the text -/
theorem slice_plain (x : Str) {a b : Nat} (hab : a ≤ b) (hb : b ≤ x.length) : cs (Txt.slice x (some (a : Int)) (some (b : Int))) = ((cs x).drop a).take (b - a) := by
  unfold Txt.slice
  split
  · rename_i h
    have h2 : (strSliceIndices (some (a : Int)) (some (b : Int)) 1 x.length).length = x.length := by simpa using h
    rw [strSliceIndices_plain hab hb] at h2
    simp only [List.length_map, List.length_range] at h2
    have ea : a = 0 := by omega
    subst ea
    rw [List.drop_zero, List.take_of_length_le (by rw [cs_len]; omega)]
  · show ((strSliceIndices (some (a : Int)) (some (b : Int)) 1 x.length).filterMap (x.cps[·]?)).toArray.toList = _
    rw [sliced_plain x hab hb]
theorem slice_sn (x : Str) (a : Nat) (h : a ≤ x.length) : Txt.slice x (some (a : Int)) none = Txt.slice x (some (a : Int)) (some (x.length : Int)) := by
  have e : strSliceIndices (some (a : Int)) none 1 x.length = strSliceIndices (some (a : Int)) (some (x.length : Int)) 1 x.length := by
    have h2 : ¬ ((x.length : Int) < 0) := by omega
    have e2 : max (0 : Int) (min (x.length : Int) (x.length : Int)) = x.length := by omega
    simp only [strSliceIndices, h2, if_false, e2, show ((1 : Int) > 0) = True from by simp, if_true]
  unfold Txt.slice
  rw [e]
theorem slice_ns (x : Str) (b : Nat) : Txt.slice x none (some (b : Int)) = Txt.slice x (some ((0 : Nat) : Int)) (some (b : Int)) := by
  have e : strSliceIndices none (some (b : Int)) 1 x.length = strSliceIndices (some ((0 : Nat) : Int)) (some (b : Int)) 1 x.length := by
    have e2 : max (0 : Int) (min (0 : Int) (x.length : Int)) = 0 := by omega
    simp [strSliceIndices, e2]
  unfold Txt.slice
  rw [e]
theorem slice_from (x : Str) (n : Nat) (h : n ≤ x.length) : cs (Txt.slice x (some (n : Int)) none) = (cs x).drop n := by
  rw [slice_sn x n h, slice_plain x h (Nat.le_refl _), List.take_of_length_le (by rw [List.length_drop, cs_len]; exact Nat.le_refl _)]
theorem slice_to (x : Str) (n : Nat) (h : n ≤ x.length) : cs (Txt.slice x none (some (n : Int))) = (cs x).take n := by
  rw [slice_ns x n, slice_plain x (Nat.zero_le n) h, List.drop_zero, Nat.sub_zero]

theorem mapIdx_asc {X : List Nat} {f : Nat → Nat → Nat} (h : ∀ k d, X[k]? = some d → f k d < 128) : ∀ c ∈ X.mapIdx f, c < 128 := by
  intro c hc
  obtain ⟨i, hi, e⟩ := List.mem_iff_getElem.mp hc
  rw [List.getElem_mapIdx] at e
  rw [← e]
  have hi' : i < X.length := by simpa using hi
  exact h i _ (List.getElem?_eq_getElem hi')

/-- the pairs make great just the letters behind the mark -/
theorem pairs_due {x m : Str} (hm : Signs m) (hx : Text x) : cs (pairs x m) = dueL (cs m) (cs x) := by
  have lm := cs_len m
  have lx := cs_len x
  have a97 : (97 : Nat) ∉ cs m := fun h => by rcases hm _ h with e | e <;> omega
  have a98 : (98 : Nat) ∉ cs m := fun h => by rcases hm _ h with e | e <;> omega
  have hl : cs (Txt.lower x) = (cs x).map lo := lower_cs hx.asc
  have r0 : cs (m ++ Txt.lower x) = cs m ++ (cs x).map lo := by rw [cs_app, hl]
  have loT : ∀ c ∈ cs x, lo c = 97 ∨ lo c = 98 ∨ lo c = 45 ∨ lo c = 43 := fun c hc => by
    rcases hx c hc with e | e | e | e | e | e <;> subst e <;> decide
  have asc0 : Asc (m ++ Txt.lower x) := hm.asc.app fun c hc => by
    rw [hl] at hc
    obtain ⟨d, hd, rfl⟩ := List.mem_map.mp hc
    rcases loT d hd with e | e | e | e <;> omega
  have r1 := rep_cs (q := 65) asc0 hm.asc (by decide : (97 : Nat) < 128) a97
  generalize hR1 : rep1 (m ++ Txt.lower x) m ⟨#[97]⟩ ⟨#[65]⟩ = R1 at r1
  have asc1 : Asc R1 := fun c hc => by
    rw [r1] at hc
    refine mapIdx_asc (fun k d hd => ?_) c hc
    split
    · omega
    · exact asc0 d (List.mem_of_getElem? hd)
  have r2 := rep_cs (q := 66) asc1 hm.asc (by decide : (98 : Nat) < 128) a98
  generalize hR2 : rep1 R1 m ⟨#[98]⟩ ⟨#[66]⟩ = R2 at r2
  have l2 : R2.length = m.length + x.length := by
    rw [← cs_len, r2, List.length_mapIdx, r1, List.length_mapIdx, r0, List.length_append, List.length_map, lm, lx]
  have hp : pairs x m = Txt.slice R2 (some (m.length : Int)) none := by
    unfold pairs
    rw [lit_a, lit_A, lit_b, lit_B, hR1, hR2]
  rw [hp, slice_from R2 m.length (by omega)]
  apply List.ext_getElem?
  intro k
  unfold dueL
  rw [List.getElem?_drop, r2, List.getElem?_mapIdx, r1, List.getElem?_mapIdx, List.getElem?_mapIdx, r0, List.getElem?_append_right (by omega), (by omega : m.length + k - (cs m).length = k), List.getElem?_map]
  cases hd : (cs x)[k]? with
  | none => rfl
  | some d =>
    have hdm := List.mem_of_getElem? hd
    have hk : k < x.length := by rw [← lx]; exact (List.getElem?_eq_some_iff.mp hd).1
    simp only [Option.map_some]
    congr 1
    have same1 : ∀ (i s : Nat), s = 45 ∨ s = 43 → ((cs m ++ (cs x).map lo)[i]? = some s ↔ (cs m ++ cs x)[i]? = some s) := by
      intro i s hs
      by_cases hi : i < (cs m).length
      · rw [List.getElem?_append_left hi, List.getElem?_append_left hi]
      · rw [List.getElem?_append_right (by omega), List.getElem?_append_right (by omega), List.getElem?_map]
        cases he : (cs x)[i - (cs m).length]? with
        | none => simp
        | some e =>
          simp only [Option.map_some, Option.some.injEq]
          rcases hx e (List.mem_of_getElem? he) with e' | e' | e' | e' | e' | e' <;> subst e' <;> rcases hs with rfl | rfl <;> decide
    have same2 : ∀ (i s : Nat), s = 45 ∨ s = 43 → (((cs m ++ (cs x).map lo).mapIdx fun k d => if d = 97 ∧ endsB (cs m) (cs m ++ (cs x).map lo) k = true then 65 else d)[i]? = some s ↔ (cs m ++ cs x)[i]? = some s) := by
      intro i s hs
      rw [← same1 i s hs, List.getElem?_mapIdx]
      cases he : (cs m ++ (cs x).map lo)[i]? with
      | none => simp
      | some e =>
        simp only [Option.map_some, Option.some.injEq]
        split
        · rename_i hh
          omega
        · exact Iff.rfl
    have E1 := Ends.congr hm same1 (m.length + k)
    have E2 := Ends.congr hm same2 (m.length + k)
    have E3 := endsM_iff (cs m) (cs x) k (by omega)
    rw [lm] at E3
    have B1 : endsB (cs m) (cs m ++ (cs x).map lo) (m.length + k) = endsM (cs m) (cs x) k := Bool.eq_iff_iff.mpr (((endsB_iff _ _ _).trans E1).trans E3.symm)
    have B2 : endsB (cs m) ((cs m ++ (cs x).map lo).mapIdx fun k d => if d = 97 ∧ endsB (cs m) (cs m ++ (cs x).map lo) k = true then 65 else d) (m.length + k) = endsM (cs m) (cs x) k :=
      Bool.eq_iff_iff.mpr (((endsB_iff _ _ _).trans E2).trans E3.symm)
    rw [B1, B2]
    cases endsM (cs m) (cs x) k
    · simp
    · simp only [and_true, if_true]
      rcases hx d hdm with e | e | e | e | e | e <;> subst e <;> decide
end Mine

namespace Mine
open Builtin Builtin.Str StrLaws

/-- the cuts of capwords: what is known of them -/
structure Cuts (M X C : List Nat) : Prop where
  at_ : ∀ c ∈ C, AtL X M c
  cov : ∀ j, AtL X M j → ∃ c ∈ C, c ≤ j ∧ j < c + M.length
  gap : ∀ c ∈ C, ∀ d ∈ C, c < d → c + M.length ≤ d
def startsB (C : List Nat) (w k : Nat) : Bool := k == 0 || C.any fun c => k == c + w
theorem startsB_iff (C : List Nat) (w k : Nat) : startsB C w k = true ↔ (k = 0 ∨ ∃ c ∈ C, k = c + w) := by
  unfold startsB
  simp

theorem capw_cs {x m : Str} (hx : Asc x) (hm : Signs m) (hw : 0 < m.length) : ∃ C, Cuts (cs m) (cs x) C ∧ cs (capw x m) = (cs x).mapIdx fun k d => if startsB C m.length k = true then up d else lo d := by
  obtain ⟨C, f, hs, hc, hcov⟩ := split_cuts hx hm.asc hw
  refine ⟨C, ⟨chain_at hc, by rw [cs_len]; exact hcov, by rw [cs_len]; exact chain_gap hc⟩, ?_⟩
  show cs (glued m ((Txt.split x m).map Txt.capitalize)) = _
  rw [glued_eq_join, hs]
  apply List.ext_getElem?
  intro k
  rw [cap_join hx hm.inert C 0 f hc k, List.getElem?_mapIdx, Nat.zero_add]
  congr 1
  funext d
  simp only [startsB_iff]

/-- p shifts M upon itself -/
def Shifts (M : List Nat) (p : Nat) : Prop := M.drop p = M.take (M.length - p)
theorem shifts_at {M : List Nat} {p : Nat} (h : Shifts M p) : ∀ j, j < M.length - p → M[p + j]? = M[j]? := by
  intro j hj
  have e : (M.drop p)[j]? = (M.take (M.length - p))[j]? := by rw [h]
  rw [List.getElem?_drop, List.getElem?_take_of_lt hj] at e
  exact e
theorem shifts_of {M : List Nat} {p : Nat} (hp : p ≤ M.length) (h : ∀ j, j < M.length - p → M[p + j]? = M[j]?) : Shifts M p := by
  unfold Shifts
  apply List.ext_getElem?
  intro j
  rw [List.getElem?_drop]
  by_cases hj : j < M.length - p
  · rw [List.getElem?_take_of_lt hj]; exact h j hj
  · rw [List.getElem?_eq_none (by omega), List.getElem?_eq_none (by rw [List.length_take]; omega)]
/-- p is the least shift -/
structure Least (M : List Nat) (p : Nat) : Prop where
  pos : 1 ≤ p
  le : p ≤ M.length
  is : Shifts M p
  least : ∀ q, 1 ≤ q → q ≤ M.length → Shifts M q → p ≤ q

theorem ends_iff (M X : List Nat) (k : Nat) (hk : k ≤ X.length) : endsM M X k = true ↔ ∀ j, j < M.length → (M ++ X)[k + j]? = M[j]? := by
  rw [endsM_iff M X k hk]
  unfold Ends
  have e : M.length + k - M.length = k := by omega
  rw [e]
  constructor
  · exact fun h => h.2
  · exact fun h => ⟨by omega, h⟩

theorem starts_ends {M X C : List Nat} (hC : Cuts M X C) (k : Nat) (hk : k ≤ X.length) (h : startsB C M.length k = true) : endsM M X k = true := by
  rw [ends_iff M X k hk]
  intro j hj
  rcases (startsB_iff _ _ _).mp h with rfl | ⟨c, hc, rfl⟩
  · rw [Nat.zero_add, List.getElem?_append_left hj]
  · have hat := hC.at_ c hc
    have h1 := (take_iff X M c hat.1).mp hat.2 j hj
    rw [List.getElem?_append_right (by omega), ← h1]
    congr 1
    omega

/-- an end of the mark below its size is a shift -/
theorem ends_small {M X : List Nat} {k : Nat} (hk : k ≤ X.length) (hkM : k ≤ M.length) (h : endsM M X k = true) : Shifts M k := by
  refine shifts_of hkM fun j hj => ?_
  have h1 := (ends_iff M X k hk).mp h j (by omega)
  rw [List.getElem?_append_left (by omega)] at h1
  exact h1
theorem ends_large {M X : List Nat} {k : Nat} (hk : k ≤ X.length) (hkM : M.length ≤ k) (h : endsM M X k = true) : AtL X M (k - M.length) := by
  have hb : k - M.length + M.length ≤ X.length := by omega
  refine ⟨hb, (take_iff X M _ hb).mpr fun j hj => ?_⟩
  have h1 := (ends_iff M X k hk).mp h j hj
  rw [List.getElem?_append_right (by omega)] at h1
  rw [← h1]
  congr 1
  omega

/-- two places nearer than the mark's size: their distance is a shift -/
theorem at_near {M X : List Nat} {c i : Nat} (hc : AtL X M c) (hi : AtL X M i) (h1 : c ≤ i) (h2 : i ≤ c + M.length) : Shifts M (i - c) := by
  refine shifts_of (by omega) fun j hj => ?_
  have a1 := (take_iff X M c hc.1).mp hc.2 (i - c + j) (by omega)
  have a2 := (take_iff X M i hi.1).mp hi.2 j (by omega)
  rw [← a1, ← a2]
  congr 1
  omega

/-- where the two part: the sign is small there and the place is not below the period -/
theorem apart_of {M X C : List Nat} {p : Nat} (hC : Cuts M X C) (hp : Least M p) {k d : Nat} (hd : X[k]? = some d)
    (hne : (if startsB C M.length k = true then up d else lo d) ≠ (if endsM M X k = true then up d else lo d)) :
    (if startsB C M.length k = true then up d else lo d) = lo (if endsM M X k = true then up d else lo d) ∧ p ≤ k := by
  have hk : k < X.length := (List.getElem?_eq_some_iff.mp hd).1
  cases hs : startsB C M.length k with
  | true => rw [hs, starts_ends hC k (by omega) hs] at hne; exact absurd rfl hne
  | false =>
    cases he : endsM M X k with
    | false => rw [hs, he] at hne; exact absurd rfl hne
    | true =>
      refine ⟨(lo_up d).symm, ?_⟩
      have hk0 : 1 ≤ k := by
        rcases Nat.eq_zero_or_pos k with h0 | h0
        · subst h0
          have : startsB C M.length 0 = true := rfl
          rw [this] at hs; cases hs
        · exact h0
      by_cases hkM : k ≤ M.length
      · exact hp.least k hk0 hkM (ends_small (by omega) hkM he)
      · have := hp.le; omega

/-- a mark that can't overlap itself: nowhere apart -/
theorem same_of {M X C : List Nat} (hC : Cuts M X C) (hp : Least M M.length) {k : Nat} (hk : k < X.length) : startsB C M.length k = endsM M X k := by
  cases hs : startsB C M.length k with
  | true => exact (starts_ends hC k (by omega) hs).symm
  | false =>
    cases he : endsM M X k with
    | false => rfl
    | true =>
      exfalso
      have hk0 : 1 ≤ k := by
        rcases Nat.eq_zero_or_pos k with h0 | h0
        · subst h0
          have : startsB C M.length 0 = true := rfl
          rw [this] at hs; cases hs
        · exact h0
      by_cases hkM : k < M.length
      · have := hp.least k hk0 (by omega) (ends_small (by omega) (by omega) he)
        omega
      · have hat := ends_large (by omega) (by omega) he
        obtain ⟨c, hc, h1, h2⟩ := hC.cov _ hat
        by_cases e : c = k - M.length
        · have : startsB C M.length k = true := (startsB_iff _ _ _).mpr (.inr ⟨c, hc, by omega⟩)
          rw [this] at hs; cases hs
        · have := hp.least (k - M.length - c) (by omega) (by omega) (at_near (hC.at_ c hc) hat h1 (by omega))
          omega

theorem mapIdx_inert {X : List Nat} {b : Nat → Bool} (h : ∀ (k d : Nat), X[k]? = some d → (up d = d ∧ lo d = d)) : (X.mapIdx fun k d => if b k = true then up d else lo d) = X := by
  apply List.ext_getElem?
  intro k
  rw [List.getElem?_mapIdx]
  cases hd : X[k]? with
  | none => rfl
  | some d =>
    obtain ⟨h1, h2⟩ := h k d hd
    simp only [Option.map_some]
    split
    · rw [h1]
    · rw [h2]
theorem mapIdx_snoc (X : List Nat) (d : Nat) (b : Nat → Bool) : ((X ++ [d]).mapIdx fun k c => if b k = true then up c else lo c) = (X.mapIdx fun k c => if b k = true then up c else lo c) ++ [if b X.length = true then up d else lo d] := by
  rw [List.mapIdx_append]
  simp

/-- signs and a letter behind them: what the two make of it -/
theorem cap_tail {M F T : List Nat} {C : List Nat} {p : Nat} (hp : Least M p) (hlt : p < M.length) (hT : T = M.drop (M.length - p)) (hF : F = [] ∨ F = M)
    (hC : Cuts M (F ++ T ++ [97]) C) : startsB C M.length (F ++ T).length = false := by
  have lT : T.length = p := by rw [hT, List.length_drop]; omega
  have lF : F.length = 0 ∨ F.length = M.length := by rcases hF with rfl | rfl; exact .inl rfl; exact .inr rfl
  cases hs : startsB C M.length (F ++ T).length with
  | false => rfl
  | true =>
    exfalso
    rw [List.length_append, lT] at hs
    have h1 := hp.pos
    rcases (startsB_iff _ _ _).mp hs with h0 | ⟨c, hc, e⟩
    · omega
    · rcases lF with l | l
      · omega
      · have eF : F = M := by
          rcases hF with rfl | h
          · exact absurd l (by simp only [List.length_nil]; omega)
          · exact h
        have ec : c = p := by omega
        subst ec
        have hat : AtL (F ++ T ++ [97]) M 0 := by
          refine ⟨by simp only [List.length_append]; omega, ?_⟩
          rw [List.drop_zero, eF, List.append_assoc, List.take_left]
        obtain ⟨c', hc', h2, h3⟩ := hC.cov 0 hat
        have e0 : c' = 0 := by omega
        subst e0
        have := hC.gap 0 hc' c hc (by omega)
        omega
theorem ends_tail {M F T : List Nat} {p : Nat} (hp : Least M p) (hT : T = M.drop (M.length - p)) (hF : F = [] ∨ F = M) : endsM M (F ++ T ++ [97]) (F ++ T).length = true := by
  have lT : T.length = p := by rw [hT, List.length_drop]; have := hp.le; omega
  have hle := hp.le
  have main : (M ++ T).drop p = M := by
    rw [List.drop_append_of_le_length hle, hp.is, hT]
    exact List.take_append_drop _ _
  unfold endsM
  rw [beq_iff_eq, List.take_left]
  rcases hF with rfl | rfl
  · rw [List.nil_append, lT]; exact main
  · have e : (F ++ T).length = F.length + p := by rw [List.length_append, lT]
    rw [e, List.drop_append, List.drop_of_length_le (by omega)]
    have e2 : F.length + p - F.length = p := by omega
    rw [List.nil_append, e2]; exact main

/-- the tail of the mark, as long as the period, and an a behind it -/
theorem tail_texts {m t F : Str} {p : Nat} (hm : Signs m) (hp : Least (cs m) p) (ht : cs t = (cs m).drop (m.length - p)) (hF : cs F = [] ∨ F = m) :
    Text (F ++ t ++ Str.ofString "a") ∧ (p < m.length → capw (F ++ t ++ Str.ofString "a") m = F ++ t ++ Str.ofString "a") ∧ pairs (F ++ t ++ Str.ofString "a") m = F ++ t ++ Str.ofString "A" := by
  have lm := cs_len m
  have hF' : cs F = [] ∨ cs F = cs m := by rcases hF with h | h; exact .inl h; exact .inr (by rw [h])
  have hsF : Signs F := by
    rcases hF with h | h
    · intro c hc; rw [h] at hc; cases hc
    · rw [h]; exact hm
  have hst : Signs t := fun c hc => by rw [ht] at hc; exact hm c (List.mem_of_mem_drop hc)
  have hFt : Signs (F ++ t) := fun c hc => by
    rw [cs_app] at hc
    rcases List.mem_append.mp hc with h | h
    · exact hsF c h
    · exact hst c h
  have ea : cs (Str.ofString "a") = [97] := by rw [lit_a]
  have eA : cs (Str.ofString "A") = [65] := by rw [lit_A]
  have hx : Text (F ++ t ++ Str.ofString "a") := hFt.text.app fun c hc => by
    rw [ea] at hc; rw [List.mem_singleton.mp hc]; exact .inl rfl
  have eX : cs (F ++ t ++ Str.ofString "a") = cs F ++ cs t ++ [97] := by rw [cs_app, cs_app, ea]
  have ht' : cs t = (cs m).drop ((cs m).length - p) := by rw [lm]; exact ht
  have inert : ∀ (k d : Nat), (cs F ++ cs t)[k]? = some d → (up d = d ∧ lo d = d) := fun k d h => hFt.inert d (by rw [cs_app]; exact List.mem_of_getElem? h)
  refine ⟨hx, fun hlt => ?_, ?_⟩
  · obtain ⟨C, hC, e⟩ := capw_cs hx.asc hm (by have := hp.pos; omega)
    rw [eX] at hC e
    apply cs_ext
    rw [e, mapIdx_snoc, mapIdx_inert inert, eX]
    have hs := cap_tail hp (by omega) ht' hF' hC
    rw [lm] at hs
    rw [hs]
    rfl
  · apply cs_ext
    rw [pairs_due hm hx, eX]
    unfold dueL
    rw [mapIdx_snoc, mapIdx_inert inert, ends_tail hp ht' hF', cs_app, cs_app, eA]
    rfl

/-- all that the law asks of text and mark -/
structure Told (x m told due : Str) (p : Nat) : Prop where
  len : told.length = x.length
  lenD : due.length = x.length
  apart : ∀ (k a b : Nat), (cs told)[k]? = some a → (cs due)[k]? = some b → a ≠ b → a = lo b ∧ p ≤ k
  same : p = m.length → told = due
theorem told_of {x m due : Str} {p : Nat} (hx : Text x) (hm : Signs m) (hp : Least (cs m) p) (hd : cs due = dueL (cs m) (cs x)) : Told x m (capw x m) due p := by
  have lm := cs_len m
  obtain ⟨C, hC, e⟩ := capw_cs hx.asc hm (by have := hp.pos; have := hp.le; omega)
  rw [← lm] at e
  refine ⟨?_, ?_, ?_, ?_⟩
  · rw [← cs_len, e, List.length_mapIdx, cs_len]
  · rw [← cs_len, hd]
    unfold dueL
    rw [List.length_mapIdx, cs_len]
  · intro k a b ha hb hne
    rw [e, List.getElem?_mapIdx] at ha
    rw [hd] at hb
    unfold dueL at hb
    rw [List.getElem?_mapIdx] at hb
    cases hX : (cs x)[k]? with
    | none => rw [hX] at ha; cases ha
    | some d =>
      rw [hX] at ha hb
      have ha' := Option.some.inj ha
      have hb' := Option.some.inj hb
      subst ha' hb'
      exact apart_of hC hp hX hne
  · intro hpm
    apply cs_ext
    rw [e, hd]
    unfold dueL
    apply List.ext_getElem?
    intro k
    rw [List.getElem?_mapIdx, List.getElem?_mapIdx]
    cases hX : (cs x)[k]? with
    | none => rfl
    | some d =>
      have hk : k < (cs x).length := (List.getElem?_eq_some_iff.mp hX).1
      have hp' : Least (cs m) (cs m).length := by rw [lm, ← hpm]; exact hp
      rw [same_of hC hp' hk]
end Mine

namespace Mine
open Builtin Builtin.Str StrLaws in
theorem split_count (x y : Str) : (Txt.split x y).length ≤ x.length + 2 := by
  unfold Txt.split
  split
  · simp
  · split
    · simp
    · have h := occ_length_le x y 0 x.length (x.length + 1)
      unfold partsBetween
      simp only [List.length_map, List.length_zip, List.length_cons, List.length_append, List.length_nil]
      omega
open Builtin Builtin.Str StrLaws in
theorem split_short {x y p : Str} (h : p ∈ Txt.split x y) : p.length ≤ x.length := by
  unfold Txt.split at h
  have one : ∀ i j, (strSub x i j).length ≤ x.length := fun i j => by
    rw [← cs_len, sub_cs, List.length_take, List.length_drop, cs_len]; omega
  split at h
  · rw [List.mem_singleton.mp h]; exact Nat.le_refl _
  · split at h
    · rw [List.mem_singleton.mp h]; exact Nat.le_refl _
    · unfold partsBetween at h
      obtain ⟨⟨i, j⟩, _, rfl⟩ := List.mem_map.mp h
      exact one i j
theorem joinOk_small {z : Str} {ws : List Str} {B : Nat} (hB : ∀ y ∈ ws, y.length ≤ B) (hn : ws.length * B + ws.length * z.length ≤ 16777216) : JoinOk z ws = true := by
  unfold JoinOk
  rw [StrLaws.joinFits hB hn]
  rfl
theorem cap_joinOk {x sep : Str} (hx : x.length ≤ 1000) (hs : sep.length ≤ 4) : JoinOk sep ((Txt.split x sep).map Txt.capitalize) = true := by
  refine joinOk_small (B := 3000) (fun y hy => ?_) ?_
  · obtain ⟨z, hz, rfl⟩ := List.mem_map.mp hy
    have h1 := split_short hz
    have h2 := len_capitalize z
    omega
  · have h1 := split_count x sep
    rw [List.length_map]
    generalize (Txt.split x sep).length = n at h1 ⊢
    have h3 : n * sep.length ≤ n * 4 := Nat.mul_le_mul_left n hs
    omega

structure CapPre (x sep : Str) : Prop where
  pos : (sep.length == 0) = false
  sep4 : sep.length ≤ 4
  len : x.length ≤ 1000

theorem CapPre.pos' {x sep : Str} (h : CapPre x sep) : 1 ≤ sep.length := by
  have := h.pos
  simp at this
  omega
local macro_rules | `(tactic| walk_at "truthy str") => `(tactic| (k_here; (with_reducible rename CapPre _ _ => hP); (with_reducible show wpAny _ _ (PySem.truthy (Value.str _ _)) _ _ _); (refine KXt.truthy_pos (K := 4) (CapPre.pos' hP) (CapPre.sep4 hP) (by decide) ?_); intro _))
local macro_rules | `(tactic| walk_at "getAttr") => `(tactic| (k_here; (with_reducible show wpAny _ _ (getAttr (Value.type _) (PySem.Str.ofString "capitalize") _) _ _ _); k_dflt (refine' strcap_attr ?F ?X ?e ?_; (case F => k_asm); (case X => k_asm); (case e => k_is); k_whole)))
local macro_rules | `(tactic| walk_at "call builtin:str.split") => `(tactic| (k_here; (with_reducible rename CapPre _ _ => hP); (with_reducible show wpAny _ _ (call (Value.builtin "str.split") [Value.str _ _, Value.str _ _]) _ _ _); (refine KSpl.split1 (by k_asm) (by k_asm) (CapPre.pos hP) ?_ (by have h1 := CapPre.len hP; rw [sizeLine_eq]; omega)); intro D' l' h' k' e' a' F' N' l1))
local macro_rules | `(tactic| walk_at "call type:map") => `(tactic| (k_here; (with_reducible show wpAny _ _ (call (Value.type "map") [Value.builtin "str.capitalize", Value.ref _]) _ _ _); (refine map_K (by k_asm) (by k_asm) (News.isList (by k_asm) (by k_mem)) ?_); intro h' z' F' N' M'))
local macro_rules | `(tactic| walk_at "call builtin:str.join") => `(tactic| (k_here; (with_reducible rename CapPre _ _ => hP); (with_reducible rename MapOn _ _ _ _ _ _ _ => hM); (with_reducible rename (List.map _ _ = Txt.split _ _) => hS); (with_reducible rename StrsAre _ _ => hW); rw [hS] at hW; (refine join_map (by rfl) (by k_asm) (by k_asm) hM hW (fun y hy => Nat.le_trans (split_short hy) (Nat.le_trans (CapPre.len hP) (by decide))) (Nat.le_trans (split_count _ _) (by have h1 := CapPre.len hP; omega)) (cap_joinOk (CapPre.len hP) (CapPre.sep4 hP)) ?_); intro h' k' t' F' N'))

set_option maxRecDepth 100000 in
set_option maxHeartbeats 8000000 in
theorem capwords_call (w : World) (mean : ExcName → Option Value) (mg mb : Str → Option Value) (news : List (Addr × Obj)) (x sep : Str) (t u : Tok) :
    CbClaim PySem.Challenge.rw_nb0007_01.row.prog w (hd.heap_39 w.params) hd.view_39 (looseW hd.view_39 [Str.ofString "capwords"]) mean mg mb 22 news [] (CapPre x sep) [.str x t, .str sep u] (fun t => .str (capw x sep) t) := by
  w_top off
  k_fill
  dsimp only [CbClaim, CbLists, CbRet]
  intros
  rename_i hpre _ _ hret
  have hpos := hpre.pos
  refine wpAny_call ?_
  refine' code_def ?k1 ?k2 ?k3 ?k4 ?k5 ?kA ?kF ?kK ?k6 ?k7 ?k8 ?k9 ?kB ?_ ?c2 ?c3 ?c4 ?c5
  case kA => exact rfl
  case kF => exact rfl
  case kK => assumption
  case k1 => k_asm
  case k2 => k_asm
  case k3 => k_asm
  case k4 => k_asm
  case k5 => k_asm
  case k6 => k_is
  case k7 => k_is
  case k8 => ktr_room
  case k9 => exact binds_K (by k_in) rfl (by k_is) rfl rfl rfl
  case c5 => decide
  case kB => exact locs rfl
  case c2 => exact rfl
  case c3 => exact rfl
  case c4 => exact rfl
  intro g' L' h' FG' F' N' B' X' T'
  dsimp only
  k_lift B'
  k_fold
  k_steps
  exact hret _ _ _ (by assumption) (cb_drop (by assumption) (fun p hp => List.mem_cons_of_mem _ hp))
end Mine

namespace Mine

structure RepPre (x p q r z : Str) : Prop where
  p0 : (p.length == 0) = false
  r0 : (r.length == 0) = false
  q5 : q.length ≤ 5
  z5 : z.length ≤ 5
  len : x.length ≤ 200
  mid : (Txt.join q (Txt.split x p)).length ≤ 200
theorem rep_joinOk {x p q : Str} (hx : x.length ≤ 200) (hs : q.length ≤ 5) : JoinOk q (Txt.split x p) = true := by
  refine joinOk_small (B := 200) (fun y hy => Nat.le_trans (split_short hy) hx) ?_
  have h1 := split_count x p
  generalize (Txt.split x p).length = n at h1 ⊢
  have h3 : n * q.length ≤ n * 5 := Nat.mul_le_mul_left n hs
  omega

local macro_rules | `(tactic| walk_at "exec While") => `(tactic| (k_here; (with_reducible rename RepPre _ _ _ _ _ => hP); k_dflt (refine whl_start 100 ?_)))
local macro_rules | `(tactic| walk_at "subscriptTail Name Slice ref ref") => `(tactic| (k_here; (with_reducible rename RepPre _ _ _ _ _ => hP); k_dflt (refine slice_tuple_from (a := 2) (by k_asm) (by k_asm) (News.isTup (by k_asm) (by k_mem)) (by decide) (by exact Nat.le_of_ble_eq_true rfl) ?_ (hsz := by exact Nat.le_of_ble_eq_true rfl)); intro h' F' N'))
local macro_rules | `(tactic| walk_at "call builtin:str.split") => `(tactic| (k_here; (with_reducible rename RepPre _ _ _ _ _ => hP); (with_reducible show wpAny _ _ (call (Value.builtin "str.split") [Value.str _ _, Value.str _ _]) _ _ _); first
  | ((refine KSpl.split1 (by k_asm) (by k_asm) (RepPre.p0 hP) ?_ (by have h1 := RepPre.len hP; rw [sizeLine_eq]; omega)); intro D' l' h' k' e' a' F' N' l1; (try k_lt l1))
  | ((refine KSpl.split1 (by k_asm) (by k_asm) (RepPre.r0 hP) ?_ (by have h1 := RepPre.mid hP; rw [sizeLine_eq]; omega)); intro D' l' h' k' e' a' F' N' l1; (try k_lt l1))))
local macro_rules | `(tactic| walk_at "call builtin:str.join") => `(tactic| (k_here; (with_reducible rename RepPre _ _ _ _ _ => hP); (with_reducible show wpAny _ _ (call (Value.builtin "str.join") [Value.str _ _, Value.ref _]) _ _ _); first
  | ((refine SC.join (News.isList (by k_asm) (by k_mem)) (by with_reducible assumption) (rep_joinOk (RepPre.len hP) (RepPre.q5 hP)) ?_); intro _ _)
  | ((refine SC.join (News.isList (by k_asm) (by k_mem)) (by with_reducible assumption) (rep_joinOk (RepPre.mid hP) (RepPre.z5 hP)) ?_); intro _ _)))

set_option maxRecDepth 100000 in
set_option maxHeartbeats 8000000 in
theorem replace_call (w : World) (mean : ExcName → Option Value) (mg mb : Str → Option Value) (news : List (Addr × Obj)) (x p q r z : Str) (t0 t1 t2 t3 t4 : Tok) :
    CbClaim PySem.Challenge.rw_nb0007_01.row.prog w (hd.heap_39 w.params) hd.view_39 (looseW hd.view_39 [Str.ofString "capwords"]) mean mg mb 29 news [] (RepPre x p q r z) [.str x t0, .str p t1, .str q t2, .str r t3, .str z t4] (fun t => .str (Txt.join z (Txt.split (Txt.join q (Txt.split x p)) r)) t) := by
  w_top off
  k_fill
  dsimp only [CbClaim, CbLists, CbRet]
  intros
  rename_i hpre _ _ hret
  refine wpAny_call ?_
  refine' kp_rest ?k1 ?k2 ?k3 ?k4 ?k5 ?kA ?kF ?kK ?k6 ?k7 ?k8 ?kV ?kP ?kG ?kB ?_ ?c2 ?c3 ?c4 ?c5
  case kA => exact rfl
  case kF => exact rfl
  case kK => assumption
  case k1 => k_asm
  case k2 => k_asm
  case k3 => k_asm
  case k4 => k_asm
  case k5 => k_asm
  case k6 => k_is
  case k7 => k_is
  case k8 => ktr_room
  case kV => kl_lit
  case kP => exact rfl
  case kG => exact fun _ => rfl
  case kB => exact fun _ => locs rfl
  case c5 => decide
  case c2 => exact rfl
  case c3 => exact rfl
  case c4 => exact rfl
  intro D' g' L' h' l1 FG' F' N' B' X' T'
  try k_lt l1
  try dsimp only
  try k_lift B'
  try k_fold
  k_steps
  exact hret _ _ _ (by assumption) (cb_drop (by assumption) (fun p hp => by repeat (first | exact hp | refine List.mem_cons_of_mem _ ?_)))

section
variable {w : World} {mean : ExcName → Option Value} {mg mb : Str → Option Value} {news : List (Addr × Obj)} {dp un : Nat} {gd : Option (List Code)} {cn : Str} {sc : Scope} {a : Addr} {ccd : Value} {cl : List (Str × Addr)} {outer : List Env} {A₀ : Around} {base h₀ : Heap} {L : Addr}
  {m : Str → Option Value} {s : Shared} {Q E : Value → Shared → Prop}
theorem replace_K {x p q r z : Str} {t0 t1 t2 t3 t4 : Tok} (B : Below A₀ base outer h₀) (F : Fr h₀ L s.heap m) (X : (hd.heap_39 w.params).In h₀) (N : News h₀ L s.heap news)
    (T : Top hd.view_39 (looseW hd.view_39 [Str.ofString "capwords"]) mean mg mb h₀) (hk : sc.kind = .function) (hp : RepPre x p q r z) (hd : dp + 1 < recursionLimit) (hu : un + 8 < cLine)
    (h : ∀ (t : Tok) (h' : Heap) (tk' : Nat), Fr h₀ L h' m → News h₀ L h' news → Q (.str (Txt.join z (Txt.split (Txt.join q (Txt.split x p)) r)) t) { s with heap := h', toks := tk' }) :
    wpAny (model PySem.Challenge.rw_nb0007_01.row.prog w) (ktrTop dp un gd cn sc L a ccd cl outer) (call (.ref 29) [.str x t0, .str p t1, .str q t2, .str r t3, .str z t4]) Q E s :=
  replace_call w mean mg mb news x p q r z t0 t1 t2 t3 t4 dp un gd cn sc a ccd cl outer A₀ base h₀ L m s Q E B F X N T hk hp hd hu h
theorem capwords_K {x y : Str} {t u : Tok} (B : Below A₀ base outer h₀) (F : Fr h₀ L s.heap m) (X : (hd.heap_39 w.params).In h₀) (N : News h₀ L s.heap news)
    (T : Top hd.view_39 (looseW hd.view_39 [Str.ofString "capwords"]) mean mg mb h₀) (hk : sc.kind = .function) (hp : CapPre x y) (hd : dp + 1 < recursionLimit) (hu : un + 8 < cLine)
    (h : ∀ (t : Tok) (h' : Heap) (tk' : Nat), Fr h₀ L h' m → News h₀ L h' news → Q (.str (capw x y) t) { s with heap := h', toks := tk' }) :
    wpAny (model PySem.Challenge.rw_nb0007_01.row.prog w) (ktrTop dp un gd cn sc L a ccd cl outer) (call (.ref 22) [.str x t, .str y u]) Q E s :=
  capwords_call w mean mg mb news x y t u dp un gd cn sc a ccd cl outer A₀ base h₀ L m s Q E B F X N T hk hp hd hu h
end
end Mine

namespace Mine

structure BpPre (x m : Str) : Prop where
  text : Text x
  signs : Signs m
  pos : 1 ≤ m.length
  m4 : m.length ≤ 4
  len : x.length ≤ 150
theorem len_a : (Str.ofString "a").length = 1 := by decide +kernel
theorem len_A : (Str.ofString "A").length = 1 := by decide +kernel
theorem len_b : (Str.ofString "b").length = 1 := by decide +kernel
theorem len_B : (Str.ofString "B").length = 1 := by decide +kernel
theorem len_low {x : Str} (h : Text x) : (Txt.lower x).length = x.length := by rw [← cs_len, lower_cs h.asc, List.length_map, cs_len]
theorem rep1_len {x m : Str} {p q : Nat} (hx : Asc x) (hm : Asc m) (hp : p < 128) (hpm : p ∉ cs m) : (rep1 x m ⟨#[p]⟩ ⟨#[q]⟩).length = x.length := by
  rw [← cs_len, rep_cs hx hm hp hpm, List.length_mapIdx, cs_len]
theorem low_asc {x : Str} (h : Text x) : Asc (Txt.lower x) := fun c hc => by
  rw [lower_cs h.asc] at hc
  obtain ⟨d, hd, rfl⟩ := List.mem_map.mp hc
  rcases h d hd with e | e | e | e | e | e <;> subst e <;> decide
theorem BpPre.rep {x m : Str} (h : BpPre x m) : RepPre (m ++ Txt.lower x) (m ++ Str.ofString "a") (m ++ Str.ofString "A") (m ++ Str.ofString "b") (m ++ Str.ofString "B") := by
  have h1 := h.pos
  have h2 := h.m4
  have h3 := h.len
  have l := len_low h.text
  have a97 : (97 : Nat) ∉ cs m := fun hc => by rcases h.signs _ hc with e | e <;> omega
  refine ⟨?_, ?_, ?_, ?_, ?_, ?_⟩
  · rw [Str.length_append, len_a]; exact beq_eq_false_iff_ne.mpr (by omega)
  · rw [Str.length_append, len_b]; exact beq_eq_false_iff_ne.mpr (by omega)
  · rw [Str.length_append, len_A]; omega
  · rw [Str.length_append, len_B]; omega
  · rw [Str.length_append, l]; omega
  · have e := rep1_len (q := 65) (h.signs.asc.app (low_asc h.text)) h.signs.asc (by decide : (97 : Nat) < 128) a97
    rw [← lit_a, ← lit_A] at e
    show (rep1 (m ++ Txt.lower x) m (Str.ofString "a") (Str.ofString "A")).length ≤ 200
    rw [e, Str.length_append, l]; omega
theorem told_len {x m : Str} (h : BpPre x m) : (Txt.join (m ++ Str.ofString "B") (Txt.split (Txt.join (m ++ Str.ofString "A") (Txt.split (m ++ Txt.lower x) (m ++ Str.ofString "a"))) (m ++ Str.ofString "b"))).length = m.length + x.length := by
  have l := len_low h.text
  have a97 : (97 : Nat) ∉ cs m := fun hc => by rcases h.signs _ hc with e | e <;> omega
  have a98 : (98 : Nat) ∉ cs m := fun hc => by rcases h.signs _ hc with e | e <;> omega
  have asc0 := h.signs.asc.app (low_asc h.text)
  have e := rep1_len (q := 65) asc0 h.signs.asc (by decide : (97 : Nat) < 128) a97
  have asc1 : Asc (rep1 (m ++ Txt.lower x) m ⟨#[97]⟩ ⟨#[65]⟩) := fun c hc => by
    rw [rep_cs asc0 h.signs.asc (by decide : (97 : Nat) < 128) a97] at hc
    refine mapIdx_asc (fun k d hd => ?_) c hc
    split
    · omega
    · exact asc0 d (List.mem_of_getElem? hd)
  have e2 := rep1_len (q := 66) asc1 h.signs.asc (by decide : (98 : Nat) < 128) a98
  show (rep1 (rep1 (m ++ Txt.lower x) m (Str.ofString "a") (Str.ofString "A")) m (Str.ofString "b") (Str.ofString "B")).length = _
  rw [lit_a, lit_A, lit_b, lit_B, e2, e, Str.length_append, l]

local macro_rules | `(tactic| walk_at "binaryOp Add str str") => `(tactic| (k_here; (with_reducible rename BpPre _ _ => hP); (with_reducible show wpAny _ _ (binaryOp Operator.Add (Value.str _ _) (Value.str _ _)) _ _ _); (refine SB.add ?_ (by have h2 := BpPre.m4 hP; have h3 := BpPre.len hP; (first | rw [len_low (BpPre.text hP)] | rw [len_a] | rw [len_A] | rw [len_b] | rw [len_B]); rw [sizeLine_eq]; omega)); intro _ _))
local macro_rules | `(tactic| walk_at "call builtin:str.lower") => `(tactic| (k_here; (with_reducible rename BpPre _ _ => hP); (with_reducible show wpAny _ _ (call (Value.builtin "str.lower") [Value.str _ _]) _ _ _); (refine SCL.lower (Nat.le_trans (BpPre.len hP) (by decide)) ?_); intro _))
local macro_rules | `(tactic| walk_at "call builtin:len") => `(tactic| (k_here; (with_reducible rename BpPre _ _ => hP); (with_reducible show wpAny _ _ (call (Value.builtin "len") [Value.str _ _]) _ _ _); (refine P.len_str (by have h2 := BpPre.m4 hP; omega) ?_)))
local macro_rules | `(tactic| walk_at "subscriptTail Name Slice str ref") => `(tactic| (k_here; (with_reducible rename BpPre _ _ => hP); k_dflt (refine slice_strN_sn (by k_asm) (by k_asm) ?_ (hsz := by have h2 := BpPre.m4 hP; have h3 := BpPre.len hP; rw [told_len hP, sizeLine_eq]; omega)); intro h' t' k' F' N'))
local macro_rules | `(tactic| walk_at "call ref") => `(tactic| (k_here; (with_reducible rename BpPre _ _ => hP); k_dflt (refine' replace_K ?k1 ?k2 ?k3 ?k4 ?k5 ?kK (BpPre.rep hP) ?kd ?ku ?_; (case k1 => k_asm); (case k2 => k_asm); (case k3 => k_asm); (case k4 => k_asm); (case k5 => k_asm); (case kK => exact rfl); (case kd => ktr_room); (case ku => ktr_units)); intro t9 h9 tk9 F9 N9))


section
variable {w : World} {mean : ExcName → Option Value} {mg mb : Str → Option Value} {news : List (Addr × Obj)} {dp un : Nat} {gd : Option (List Code)} {cn : Str} {sc : Scope} {a : Addr} {ccd : Value} {cl : List (Str × Addr)} {outer : List Env} {A₀ : Around} {base h₀ : Heap} {L : Addr}
  {m : Str → Option Value} {s : Shared} {Q E : Value → Shared → Prop}
set_option maxRecDepth 100000 in
set_option maxHeartbeats 8000000 in
theorem bp_K {x sep : Str} {t u : Tok} (B : Below A₀ base outer h₀) (F : Fr h₀ L s.heap m) (X : (hd.heap_39 w.params).In h₀) (N : News h₀ L s.heap news)
    (T : Top hd.view_39 (looseW hd.view_39 [Str.ofString "capwords"]) mean mg mb h₀) (hk : sc.kind = .function) (hpre : BpPre x sep) (hd : dp + 3 < recursionLimit) (hu : un + 30 < cLine)
    (hret : ∀ (t : Tok) (h' : Heap) (tk' : Nat), Fr h₀ L h' m → News h₀ L h' news → Q (.str (pairs x sep) t) { s with heap := h', toks := tk' }) :
    wpAny (model PySem.Challenge.rw_nb0007_01.row.prog w) (ktrTop dp un gd cn sc L a ccd cl outer) (call (.ref 43) [.str x t, .str sep u]) Q E s := by
  revert X
  k_fill
  intro X
  refine wpAny_call ?_
  refine' code_def ?k1 ?k2 ?k3 ?k4 ?k5 ?kA ?kF ?kK ?k6 ?k7 ?k8 ?k9 ?kB ?_ ?c2 ?c3 ?c4 ?c5
  case kA => exact rfl
  case kF => exact rfl
  case kK => assumption
  case k1 => k_asm
  case k2 => k_asm
  case k3 => exact X
  case k4 => k_asm
  case k5 => k_asm
  case k6 => k_is
  case k7 => k_is
  case k8 => ktr_room
  case k9 => exact BindsTo.of_eq rfl
  case c5 => decide
  case kB => exact locs rfl
  case c2 => exact rfl
  case c3 => exact rfl
  case c4 => exact rfl
  intro g' L' h' FG' F' N' B' X' T'
  dsimp only
  k_lift B'
  k_fold
  k_steps
  exact hret _ _ _ (by assumption) (by assumption)
end
end Mine

namespace Mine

structure MarkIn (n : Nat) (x : Str) : Prop where
  len : x.length = n
  signs : Signs x
theorem mark_start : MarkIn 0 (Str.ofString "") := ⟨by decide +kernel, fun c hc => by
  have e : cs (Str.ofString "") = [] := by decide +kernel
  rw [e] at hc; cases hc⟩
theorem item_mp {k : Int} (h0 : 0 ≤ k) (h1 : k < 2) : Signs (Txt.item (Str.ofString "-+") k) ∧ (Txt.item (Str.ofString "-+") k).length = 1 := by
  have hk : k = 0 ∨ k = 1 := by omega
  have e0 : cs (Txt.item (Str.ofString "-+") 0) = [45] := by decide +kernel
  have e1 : cs (Txt.item (Str.ofString "-+") 1) = [43] := by decide +kernel
  refine ⟨fun c hc => ?_, rfl⟩
  rcases hk with rfl | rfl
  · rw [e0] at hc; exact .inl (List.mem_singleton.mp hc)
  · rw [e1] at hc; exact .inr (List.mem_singleton.mp hc)
theorem mark_turn {n : Nat} {x : Str} {l : Int} (h : MarkIn n x) : MarkIn (n + 1) (x ++ Txt.item (Str.ofString "-+") (l.fmod 2)) := by
  have hi := item_mp (fmod_lo l (by decide)) (fmod_hi l (by decide) : l.fmod 2 < 2)
  refine ⟨by rw [Str.length_append, h.len, hi.2], fun c hc => ?_⟩
  rw [cs_app] at hc
  rcases List.mem_append.mp hc with hc | hc
  · exact h.signs c hc
  · exact hi.1 c hc

structure MarkCall (n : Int) : Prop where
  lo : 0 ≤ n.fmod 4
  hi : n.fmod 4 < 4
local macro_rules | `(tactic| walk_at "inplaceOp Add str str") => `(tactic| (k_here; (with_reducible rename MarkCall _ => hC); (with_reducible rename MarkIn _ _ => hM); (with_reducible show wpAny _ _ (inplaceOp Operator.Add (Value.str _ _) (Value.str _ _)) _ _ _); refine SB.iadd ?_ (by have h1 := MarkIn.len hM; have h2 := MarkCall.lo hC; have h3 := MarkCall.hi hC; rw [sizeLine_eq]; show _ + 1 ≤ _; omega); intro _ _))

section
variable {w : World} {mean : ExcName → Option Value} {mg mb : Str → Option Value} {news : List (Addr × Obj)} {dp un : Nat} {gd : Option (List Code)} {cn : Str} {sc : Scope} {a : Addr} {ccd : Value} {cl : List (Str × Addr)} {outer : List Env} {A₀ : Around} {base h₀ : Heap} {L : Addr}
  {m : Str → Option Value} {s : Shared} {Q E : Value → Shared → Prop}
set_option maxRecDepth 100000 in
set_option maxHeartbeats 8000000 in
theorem mark_K {n : Int} {t : Tok} (B : Below A₀ base outer h₀) (F : Fr h₀ L s.heap m) (X : (hd.heap_39 w.params).In h₀) (N : News h₀ L s.heap news)
    (T : Top hd.view_39 (looseW hd.view_39 [Str.ofString "capwords"]) mean mg mb h₀) (hk : sc.kind = .function) (hd : dp + 3 < recursionLimit) (hu : un + 30 < cLine)
    (hret : ∀ (x : Str) (t : Tok) (h' : Heap) (tk' : Nat), Signs x → 1 ≤ x.length → x.length ≤ 4 → Fr h₀ L h' m → News h₀ L h' news → Q (.str x t) { s with heap := h', toks := tk' }) :
    wpAny (model PySem.Challenge.rw_nb0007_01.row.prog w) (ktrTop dp un gd cn sc L a ccd cl outer) (call (.ref 36) [.int n t]) Q E s := by
  revert X
  k_fill
  intro X
  have hMC : MarkCall n := ⟨fmod_lo n (by decide), fmod_hi n (by decide)⟩
  k_with "pyIter ref" => k_state (fun pre mark left => MarkIn pre.length mark) "mark" "left"
  k_with "state" => first | exact mark_start | (rw [List.length_append]; exact mark_turn (by assumption))
  refine wpAny_call ?_
  refine' code_def ?k1 ?k2 ?k3 ?k4 ?k5 ?kA ?kF ?kK ?k6 ?k7 ?k8 ?k9 ?kB ?_ ?c2 ?c3 ?c4 ?c5
  case kA => exact rfl
  case kF => exact rfl
  case kK => assumption
  case k1 => k_asm
  case k2 => k_asm
  case k3 => exact X
  case k4 => k_asm
  case k5 => k_asm
  case k6 => k_is
  case k7 => k_is
  case k8 => ktr_room
  case k9 => exact BindsTo.of_eq rfl
  case c5 => decide
  case kB => exact locs rfl
  case c2 => exact rfl
  case c3 => exact rfl
  case c4 => exact rfl
  intro g' L' h' FG' F' N' B' X' T'
  dsimp only
  k_lift B'
  k_fold
  k_steps
  rename MarkIn _ _ => hM
  have hl := MarkIn.len hM
  have hn0 : 0 ≤ n.fmod 4 := fmod_lo n (by decide)
  have hn4 : n.fmod 4 < 4 := fmod_hi n (by decide)
  rw [rangeKs_length] at hl
  exact hret _ _ _ _ (MarkIn.signs hM) (by omega) (by omega) (by assumption) (by assumption)
end
end Mine

namespace Mine
open PySem.Calls
structure Mk (x : Str) : Prop where
  signs : Signs x
  pos : 1 ≤ x.length
  m4 : x.length ≤ 4
structure Tx (x : Str) : Prop where
  text : Text x
  len : x.length ≤ 92

/-- a turn of a comprehension of texts: one text with P, the ledger as it was -/
def TxEl (news : List (Addr × Obj)) (Pr : Str → Prop) (y : Value) (news' : List (Addr × Obj)) : Prop := news' = news ∧ ∃ r t, y = .str r t ∧ Pr r
theorem txEl_intro {news : List (Addr × Obj)} {Pr : Str → Prop} {r : Str} {t : Tok} (h : Pr r) : TxEl news Pr (.str r t) news := ⟨rfl, r, t, rfl, h⟩
theorem strs_snoc {y : Str} {t : Tok} : ∀ {vs : List Value} {ys : List Str}, StrsAre vs ys → StrsAre (vs ++ [.str y t]) (ys ++ [y])
  | _, _, .nil => .cons y t .nil
  | _, _, .cons z u r => .cons z u (strs_snoc r)

section
variable {prog : Program} {w : World} {A : Around} {h₀ : Heap} {L : Addr} {m : Str → Option Value} {env : Env} {elt : Expr} {x : Str} {scope : Scope} {cl : List (Str × Addr)} {s : Shared} {S : List (Addr × Obj) → Prop} {P : Nat → Value → Prop} {Fin : List Value → List (Addr × Obj) → Prop} {news : List (Addr × Obj)}
theorem comp_texts {n : Nat} (Pr : Str → Prop) (hP : ∀ i v, P i v → ∃ k t, v = .int k t)
    (turn : ∀ k t I oI C oC D m₂ ys h tk (E' : Value → Shared → Prop), LCg.NsObj oC m₂ → m₂ x = some (.int k t) → Fr h₀ L h m → News h₀ L h ((I, oI) :: (C, oC) :: (D, LCg.lst ys) :: news) → LCg.Off3 I C D news → ((@Ne Nat I C) ∧ (@Ne Nat I D) ∧ (@Ne Nat C D)) →
      wpAny (model prog w) A (eval elt (compEnvC scope cl C env)) (LCg.CompEnd h₀ L m { s with heap := h, toks := tk } I oI C oC D (LCg.lst ys) S (fun y news' => TxEl news Pr y news')) E' { s with heap := h, toks := tk })
    (fin : ∀ ys ws, StrsAre ys ws → ws.length = n → (∀ r ∈ ws, Pr r) → Fin ys news) : LCg.CompRest prog w A h₀ L m env elt x scope cl s S P Fin n 0 [] news := by
  have key : ∀ (j i : Nat) (ys : List Value) (ws : List Str), i + j = n → StrsAre ys ws → ws.length = i → (∀ r ∈ ws, Pr r) → LCg.CompRest prog w A h₀ L m env elt x scope cl s S P Fin j i ys news := by
    intro j
    induction j with
    | zero =>
      intro i ys ws hi hy hl hp
      exact LCg.CompRest.zero (fin ys ws hy (by omega) hp)
    | succ j ih =>
      intro i ys ws hi hy hl hp
      refine LCg.CompRest.succ ?_
      intro v I oI C oC D m₂ h tk E' hv hC hx F N off ne
      obtain ⟨k, t, rfl⟩ := hP i v hv
      refine wpAny_mono (turn k t I oI C oC D m₂ ys h tk E' hC hx F N off ne) (fun y s₂ hq => ?_) fun _ _ e => e
      obtain ⟨h', tk', nw, e, F', N', off', hS, hn, r, t', hy', hr⟩ := hq
      rw [hn] at N' off' hS
      refine ⟨h', tk', news, e, F', N', off', hS, ?_⟩
      rw [hy']
      refine ih (i + 1) _ (ws ++ [r]) (by omega) (strs_snoc hy) (by rw [List.length_append, hl]; rfl) fun q hq => ?_
      rcases List.mem_append.mp hq with h1 | h1
      · exact hp q h1
      · rw [List.mem_singleton.mp h1]; exact hr
  exact key n 0 [] [] (by omega) .nil rfl fun _ h => nomatch h
end

def Piece (r : Str) : Prop := Text r ∧ r.length ≤ 4
theorem piece_mark {x : Str} (h : Mk x) : Piece x := ⟨h.signs.text, h.m4⟩
theorem piece_lit {x : Str} (h : ((cs x).all fun c => c == 97 || c == 98 || c == 65 || c == 66 || c == 45 || c == 43) = true) (hl : x.length = 1) : Piece x := by
  refine ⟨fun c hc => ?_, by omega⟩
  have := List.all_eq_true.mp h c hc
  simpa [or_assoc] using this

theorem join_text : ∀ ws : List Str, (∀ r ∈ ws, Piece r) → Text (Str.join (Str.ofString "") ws) ∧ (Str.join (Str.ofString "") ws).length ≤ 4 * ws.length
  | [], _ => ⟨fun c hc => (List.not_mem_nil (show c ∈ ([] : List Nat) from hc)).elim, Nat.zero_le _⟩
  | [r], h => h r (List.mem_singleton.mpr rfl)
  | r :: q :: rest, h => by
    have ih := join_text (q :: rest) fun y hy => h y (List.mem_cons_of_mem _ hy)
    have h1 := h r List.mem_cons_self
    have e0 : cs (Str.ofString "") = [] := by decide +kernel
    have l0 : (Str.ofString "").length = 0 := by decide +kernel
    show Text (r ++ Str.ofString "" ++ Str.join (Str.ofString "") (q :: rest)) ∧ (r ++ Str.ofString "" ++ Str.join (Str.ofString "") (q :: rest)).length ≤ _
    refine ⟨(h1.1.app fun c hc => by rw [e0] at hc; cases hc).app ih.1, ?_⟩
    rw [Str.length_append, Str.length_append, l0]
    have := h1.2
    have := ih.2
    simp only [List.length_cons] at this ⊢
    omega
theorem sum_pieces : ∀ ws : List Str, (∀ r ∈ ws, Piece r) → (ws.map (·.length)).sum ≤ 4 * ws.length
  | [], _ => Nat.zero_le _
  | r :: rest, h => by
    have ih := sum_pieces rest fun y hy => h y (List.mem_cons_of_mem _ hy)
    have h1 := (h r List.mem_cons_self).2
    simp only [List.map_cons, List.sum_cons, List.length_cons]
    omega

section
variable {prog : Program} {w : World} {A : Around} {E : Value → Shared → Prop} {s : Shared} {t : Tok} {Q : Value → Shared → Prop}
theorem join_pieces {D : Addr} {ys : List Value} {ws : List Str} (hl : s.heap.IsList D ys.toArray) (hw : StrsAre ys ws) (hp : ∀ r ∈ ws, Piece r) (hn : ws.length ≤ 23)
    (h : ∀ x t' k, Tx x → Q (.str x t') { s with toks := k }) : wpAny (model prog w) A (call (.builtin "str.join") [.str (Str.ofString "") t, .ref D]) Q E s := by
  have h1 := sum_pieces ws hp
  have h2 := join_text ws hp
  have l0 : (Str.ofString "").length = 0 := by decide +kernel
  refine join_list hl (by simpa using hw) (by rw [l0, Nat.mul_zero]; omega) fun t' k => h _ t' k ?_
  have e : Txt.join (Str.ofString "") ws = Str.join (Str.ofString "") ws := StrLaws.glued_eq_join _ _
  rw [e]
  exact ⟨h2.1, by omega⟩
end

/-- a frame's map may say a name's value ahead -/
theorem fr_say {h₀ h : Heap} {L : Addr} {m : Str → Option Value} {x : Str} {v : Value} (e : m x = some v) (F : Fr h₀ L h m) : Fr h₀ L h (fun y => if y = x then some v else m y) := by
  have em : (fun y => if y = x then some v else m y) = m := by
    funext y
    by_cases hy : y = x
    · rw [if_pos hy, hy, e]
    · rw [if_neg hy]
  rw [em]
  exact F

theorem int_at {vs : List Value} {ns : List Int} {i : Nat} {v : Value} (h : IntsAre vs ns) (hv : vs.toArray[i]? = some v) : ∃ k t, v = .int k t := by
  obtain ⟨k, t, e, _⟩ := IntsAre.at h i v (by simpa using hv)
  exact ⟨k, t, e⟩
theorem numbers_len {ns : List Int} : (List.drop 1 (List.take 20 ns ++ [5, 3, 6, 1])).length ≤ 23 := by
  simp only [List.length_drop, List.length_append, List.length_take, List.length_cons, List.length_nil]
  omega
end Mine
namespace Mine
theorem fr_hide {G : Prop} {h₀ h : Heap} {L : Addr} {m : Str → Option Value} {x : Str} {v : Value} (F : Fr h₀ L h (fun y => if y = x then some v else m y))
    (K : ∀ m0 : Str → Option Value, Fr h₀ L h (fun y => if y = x then some v else m0 y) → G) : G := K m F
theorem news_drop {h₀ h : Heap} {L : Addr} {news : List (Addr × Obj)} (k : Nat) (N : News h₀ L h news) : News h₀ L h (news.drop k) := fun p hp => N p (List.mem_of_mem_drop hp)
theorem cell_none {o : Obj} {v : Option Value} (h : o.data = .cell v) (e : v = none) : o.data = .cell none := by rw [h, e]
end Mine
namespace Mine
structure Hide (p : Prop) : Prop where
  out : p
end Mine

namespace Mine
open PySem.Calls

/-- a turn of a tested comprehension over a range: the number is taken, or it is not -/
def IntIf (news : List (Addr × Obj)) (c : Prop) (k : Int) (y : Value) (news' : List (Addr × Obj)) : Prop := news' = news ∧ c ∧ ∃ t, y = .int k t
def NoIf (news : List (Addr × Obj)) (c : Prop) (news' : List (Addr × Obj)) : Prop := news' = news ∧ c
theorem intIf_intro {news : List (Addr × Obj)} {c : Prop} {k : Int} {t : Tok} (h : c) : IntIf news c k (.int k t) news := ⟨rfl, h, t, rfl⟩
theorem noIf_intro {news : List (Addr × Obj)} {c : Prop} (h : c) : NoIf news c news := ⟨rfl, h⟩
theorem ints_snoc {k : Int} {t : Tok} : ∀ {vs : List Value} {ks : List Int}, IntsAre vs ks → IntsAre (vs ++ [.int k t]) (ks ++ [k])
  | _, _, .nil => .cons k t .nil
  | _, _, .cons z u r => .cons z u (ints_snoc r)

section
variable {prog : Program} {w : World} {A : Around} {h₀ : Heap} {L : Addr} {m : Str → Option Value} {env : Env} {ct elt : Expr} {x : Str} {scope : Scope} {cl : List (Str × Addr)} {s : Shared} {S : List (Addr × Obj) → Prop} {Fin : List Value → List (Addr × Obj) → Prop} {news : List (Addr × Obj)}
theorem comp_tests {a : Int} {n : Nat} (tst : Int → Bool)
    (turn : ∀ k t I oI C oC D m₂ ys h tk (E' : Value → Shared → Prop), a ≤ k → k < a + (n : Int) → LCg.NsObj oC m₂ → m₂ x = some (.int k t) → Fr h₀ L h m → News h₀ L h ((I, oI) :: (C, oC) :: (D, LCg.lst ys) :: news) → LCg.Off3 I C D news → ((@Ne Nat I C) ∧ (@Ne Nat I D) ∧ (@Ne Nat C D)) →
      wpAny (model prog w) A (isTrue ct (compEnvC scope cl C env) (eval ct (compEnvC scope cl C env))) (fun ok s' => if ok = true then
        wpAny (model prog w) A (eval elt (compEnvC scope cl C env)) (LCg.CompEnd h₀ L m { s with heap := h, toks := tk } I oI C oC D (LCg.lst ys) S (fun y news' => IntIf news (tst k = true) k y news')) E' s'
        else LCg.CompEnd h₀ L m { s with heap := h, toks := tk } I oI C oC D (LCg.lst ys) S (fun _ news' => NoIf news (tst k = false) news') Value.none s') E' { s with heap := h, toks := tk })
    (fin : ∀ ys, IntsAre ys ((rangeKs a n).filter tst) → Fin ys news) : LCt.CompRestT prog w A h₀ L m env ct elt x scope cl s S (fun i v => ∃ t, v = .int (a + (i : Int)) t) Fin n 0 [] news := by
  have key : ∀ (j i : Nat) (ys : List Value), i + j = n → IntsAre ys (((rangeKs a n).take i).filter tst) → LCt.CompRestT prog w A h₀ L m env ct elt x scope cl s S (fun i v => ∃ t, v = .int (a + (i : Int)) t) Fin j i ys news := by
    intro j
    induction j with
    | zero =>
      intro i ys hi hy
      have e : i = n := by omega
      subst e
      rw [List.take_of_length_le (Nat.le_of_eq (rangeKs_length _ _))] at hy
      exact LCt.CompRestT.zero (fin ys hy)
    | succ j ih =>
      intro i ys hi hy
      refine LCt.CompRestT.succ ?_
      intro v I oI C oC D m₂ h tk E' hv hC hx F N off ne
      obtain ⟨t, rfl⟩ := hv
      have hk : (rangeKs a n)[i]? = some (a + (i : Int)) := by simp [rangeKs, show i < n by omega]
      have htk : (rangeKs a n).take (i + 1) = (rangeKs a n).take i ++ [a + (i : Int)] := by simp [List.take_add_one, hk]
      refine wpAny_mono (turn (a + (i : Int)) t I oI C oC D m₂ ys h tk E' (by omega) (by omega) hC hx F N off ne) (fun ok s' hq => ?_) fun _ _ e => e
      cases ok with
      | true =>
        simp only [if_true] at hq ⊢
        refine wpAny_mono hq (fun y s₂ hq => ?_) fun _ _ e => e
        obtain ⟨h', tk', nw, e, F', N', off', hS, hn, ht, t', hy'⟩ := hq
        rw [hn] at N' off' hS
        refine ⟨h', tk', news, e, F', N', off', hS, ?_⟩
        rw [hy']
        refine ih (i + 1) _ (by omega) ?_
        rw [htk, List.filter_append]
        have e2 : [a + (i : Int)].filter tst = [a + (i : Int)] := by simp [ht]
        rw [e2]
        exact ints_snoc hy
      | false =>
        simp only [Bool.false_eq_true, if_false] at hq ⊢
        obtain ⟨h', tk', nw, e, F', N', off', hS, hn, ht⟩ := hq
        rw [hn] at N' off' hS
        refine ⟨h', tk', news, e, F', N', off', hS, ih (i + 1) _ (by omega) ?_⟩
        rw [htk, List.filter_append]
        have e2 : [a + (i : Int)].filter tst = [] := by simp [ht]
        rw [e2, List.append_nil]
        exact hy
  exact key n 0 [] (by omega) (by rw [List.take_zero]; exact .nil)
end

/-- mark[p:] == mark[:size - p] -/
def perT (m : Str) (p : Int) : Bool := Txt.slice m (some p) none == Txt.slice m none (some ((m.length : Int) - p))
def Mk.tst {x : Str} (_ : Mk x) (p : Int) : Bool := perT x p
structure Per (m : Str) (p : Int) : Prop where
  pos : 1 ≤ p
  le : p ≤ (m.length : Int)
  least : Least (cs m) p.toNat
theorem perT_iff {m : Str} {p : Int} (h1 : 1 ≤ p) (h2 : p ≤ (m.length : Int)) : perT m p = true ↔ Shifts (cs m) p.toNat := by
  have e1 : (p.toNat : Int) = p := by omega
  have e2 : (((m.length - p.toNat : Nat)) : Int) = (m.length : Int) - p := by omega
  have a1 := slice_from m p.toNat (by omega)
  have a2 := slice_to m (m.length - p.toNat) (by omega)
  rw [e1] at a1
  rw [e2] at a2
  unfold perT Shifts
  rw [beq_iff_eq]
  have e : (Txt.slice m (some p) none = Txt.slice m none (some ((m.length : Int) - p))) ↔ cs (Txt.slice m (some p) none) = cs (Txt.slice m none (some ((m.length : Int) - p))) := ⟨fun h => by rw [h], cs_ext⟩
  rw [e, a1, a2, cs_len]
theorem range_mem {a k : Int} {n : Nat} (h1 : a ≤ k) (h2 : k < a + (n : Int)) : k ∈ rangeKs a n :=
  List.mem_map.mpr ⟨(k - a).toNat, List.mem_range.mpr (by omega), by omega⟩
theorem per_ne {m : Str} (h : Mk m) {n : Nat} (hn : n = m.length) : 0 < ((rangeKs 1 n).filter (Mk.tst h)).length := by
  have hp := h.pos
  have hm : (m.length : Int) ∈ (rangeKs 1 n).filter (Mk.tst h) := by
    refine List.mem_filter.mpr ⟨range_mem (by omega) (by omega), (perT_iff (by omega) (by omega)).mpr ?_⟩
    unfold Shifts
    have e : ((m.length : Int)).toNat = (cs m).length := by rw [cs_len]; omega
    rw [e, Nat.sub_self, List.take_zero, List.drop_of_length_le (Nat.le_refl _)]
  exact List.length_pos_of_mem hm
theorem per_of {m : Str} (h : Mk m) {n : Nat} (hn : n = m.length) {M : Int} (h1 : M ∈ (rangeKs 1 n).filter (Mk.tst h)) (h2 : ∀ a, a ∈ (rangeKs 1 n).filter (Mk.tst h) → M ≤ a) : Per m M := by
  obtain ⟨hr, ht⟩ := List.mem_filter.mp h1
  have hb := mem_rangeKs hr
  have l := cs_len m
  refine ⟨hb.1, by omega, by omega, by omega, (perT_iff hb.1 (by omega)).mp ht, fun q q1 q2 q3 => ?_⟩
  have := h2 (q : Int) (List.mem_filter.mpr ⟨range_mem (by omega) (by omega), (perT_iff (by omega) (by omega)).mpr (by rw [Int.toNat_natCast]; exact q3)⟩)
  omega
theorem ite_by {b : Bool} {P Q : Prop} (h1 : b = true → P) (h2 : b = false → Q) : if b = true then P else Q := by
  cases b with
  | true => rw [if_pos rfl]; exact h1 rfl
  | false => rw [if_neg Bool.false_ne_true]; exact h2 rfl
end Mine

namespace Mine
open PySem.Calls
open Builtin Builtin.Str StrLaws in
theorem ends_is {m x : Str} {j : Nat} (hj : j ≤ x.length) : Txt.endswith (m ++ Txt.slice x none (some (j : Int))) m = endsM (cs m) (cs x) j := by
  have l1 : (Txt.slice x none (some (j : Int))).length = j := by rw [← cs_len, slice_to x j hj, List.length_take, cs_len]; omega
  have e : cs (m ++ Txt.slice x none (some (j : Int))) = cs m ++ (cs x).take j := by rw [cs_app, slice_to x j hj]
  unfold Txt.endswith endsM
  have l2 : (m ++ Txt.slice x none (some (j : Int))).length = m.length + j := by rw [Str.length_append, l1]
  rw [subAt_eq, l2, decide_eq_true (by omega), Bool.true_and]
  have e2 : m.length + j - m.length = j := by omega
  rw [e2]
  show (((cs (m ++ Txt.slice x none (some (j : Int)))).drop j).take m.length == cs m) = _
  rw [e]
  have e3 : ((cs m ++ (cs x).take j).drop j).take m.length = (cs m ++ (cs x).take j).drop j := by
    refine List.take_of_length_le ?_
    rw [List.length_drop, List.length_append, List.length_take, cs_len, cs_len]
    omega
  rw [e3]
theorem item_is {x : Str} {j : Nat} (hj : j < x.length) : Txt.item x (j : Int) = ⟨#[(cs x)[j]'(by rw [cs_len]; exact hj)]⟩ := by
  have hs : j < x.cps.size := hj
  unfold Txt.item Txt.charAt
  have e : seqIndex? (j : Int) x.length = some j := by
    unfold seqIndex?
    simp only [show ¬ ((j : Int) < 0) by omega, if_false]
    first
      | (rw [if_pos (by omega)]; simp)
      | (simp; omega)
      | skip
  rw [e]
  simp [cs, hs]
/-- the text due, as far as the loop has come -/
def DueIn (m x : Str) (j : Nat) (d : Str) : Prop := cs d = (dueL (cs m) (cs x)).take j
theorem due_start {m x : Str} : DueIn m x 0 (Str.ofString "") := by
  unfold DueIn
  rw [List.take_zero]
  decide +kernel
theorem due_len {m x : Str} {j : Nat} {d : Str} (h : DueIn m x j d) (hj : j ≤ x.length) : d.length = j := by
  rw [← cs_len, h, List.length_take]
  unfold dueL
  rw [List.length_mapIdx, cs_len]
  omega
theorem due_turn {m x : Str} {j : Nat} {d e : Str} (h : DueIn m x j d) (hj : j < x.length)
    (he : cs e = [if endsM (cs m) (cs x) j = true then up ((cs x)[j]'(by rw [cs_len]; exact hj)) else lo ((cs x)[j]'(by rw [cs_len]; exact hj))]) : DueIn m x (j + 1) (d ++ e) := by
  unfold DueIn at h ⊢
  have hj' : j < (cs x).length := by rw [cs_len]; exact hj
  rw [cs_app, h, he, List.take_add_one]
  congr 1
  unfold dueL
  rw [List.getElem?_mapIdx, List.getElem?_eq_getElem hj']
  rfl
theorem due_up {m x : Str} {j : Nat} {d : Str} (hx : Text x) (h : DueIn m x j d) (hj : j < x.length) (he : Txt.endswith (m ++ Txt.slice x none (some (j : Int))) m = true) : DueIn m x (j + 1) (d ++ Txt.upper (Txt.item x (j : Int))) := by
  have hj' : j < (cs x).length := by rw [cs_len]; exact hj
  rw [ends_is (by omega)] at he
  refine due_turn h hj ?_
  rw [item_is hj, he, if_pos rfl]
  have ha : Asc (⟨#[(cs x)[j]]⟩ : Str) := fun c hc => by
    have hc' : c ∈ [(cs x)[j]] := hc
    rw [List.mem_singleton.mp hc']
    exact hx.asc _ (List.getElem_mem hj')
  rw [upper_cs ha]
  rfl
theorem due_lo {m x : Str} {j : Nat} {d : Str} (hx : Text x) (h : DueIn m x j d) (hj : j < x.length) (he : Txt.endswith (m ++ Txt.slice x none (some (j : Int))) m = false) : DueIn m x (j + 1) (d ++ Txt.lower (Txt.item x (j : Int))) := by
  have hj' : j < (cs x).length := by rw [cs_len]; exact hj
  rw [ends_is (by omega)] at he
  refine due_turn h hj ?_
  rw [item_is hj, he, if_neg Bool.false_ne_true]
  have ha : Asc (⟨#[(cs x)[j]]⟩ : Str) := fun c hc => by
    have hc' : c ∈ [(cs x)[j]] := hc
    rw [List.mem_singleton.mp hc']
    exact hx.asc _ (List.getElem_mem hj')
  rw [lower_cs ha]
  rfl

/-- the loop that fills a cell with a text: what a turn leaves -/
def DueEnd (h₀ : Heap) (L : Addr) (x : Str) (v : Value) (m₀ : Str → Option Value) (P : Str → Prop) (c1 c2 c3 c4 : Addr) (o1 o2 o4 : Obj) (own : List (Addr × Obj)) (s₁ : Shared) (f : Flow) (s₂ : Shared) : Prop :=
  f = .next ∧ ∃ h' tk' o' d t, s₂ = { s₁ with heap := h', toks := tk' } ∧ Fr h₀ L h' (fun y => if y = x then some v else m₀ y) ∧ News h₀ L h' ((c4, o4) :: (c3, o') :: (c2, o2) :: (c1, o1) :: own) ∧ o'.data = .cell (some (.str d t)) ∧ P d
theorem dueEnd_intro {h₀ h' : Heap} {L : Addr} {x : Str} {v : Value} {m₀ : Str → Option Value} {P : Str → Prop} {c1 c2 c3 c4 : Addr} {o1 o2 o4 o' : Obj} {own : List (Addr × Obj)} {s₁ : Shared} {tk' : Nat} {d : Str} {t : Tok}
    (F : Fr h₀ L h' (fun y => if y = x then some v else m₀ y)) (N : News h₀ L h' ((c4, o4) :: (c3, o') :: (c2, o2) :: (c1, o1) :: own)) (hd : o'.data = .cell (some (.str d t))) (hp : P d) :
    DueEnd h₀ L x v m₀ P c1 c2 c3 c4 o1 o2 o4 own s₁ .next { s₁ with heap := h', toks := tk' } := ⟨rfl, h', tk', o', d, t, rfl, F, N, hd, hp⟩

section
variable {prog : Program} {w : World} {A : Around} {E : Value → Shared → Prop} {s : Shared} {env : Env} {h₀ : Heap} {x : Str} {body : List Stmt} {Q : Flow → Shared → Prop}
theorem due_loop {r : Addr} {b₀ : Int} {t₀ u₀ v₀ : Tok} {n : Nat} {m₀ : Str → Option Value} {c1 c2 c3 c4 : Addr} {o1 o2 o3 o4 : Obj} {d₀ : Str} {td : Tok} (P : Nat → Str → Prop)
    (hh : A.handled = none) (hr : IsRange s.heap r 0 b₀ 1 t₀ u₀ v₀) (hsmall : Builtin.Range.small 0 b₀ 1 = true) (hn : Builtin.Range.rangeSize 0 b₀ 1 = (n : Int)) (F : Fr h₀ env.locals s.heap m₀)
    (N : News h₀ env.locals s.heap [(c4, o4), (c3, o3), (c2, o2), (c1, o1)]) (hd : o3.data = .cell (some (.str d₀ td))) (hp : P 0 d₀)
    (turn : ∀ (o : Obj) (d : Str) (u : Tok) (j : Nat) (t : Tok) (h : Heap) (tk : Nat) (own : List (Addr × Obj)), j < n → OwnOff own [c4, c3, c2, c1] → o.data = .cell (some (.str d u)) → P j d →
      Fr h₀ env.locals h (fun y => if y = x then some (.int (j : Int) t) else m₀ y) → News h₀ env.locals h ((c4, o4) :: (c3, o) :: (c2, o2) :: (c1, o1) :: own) →
      wpAny (model prog w) A (execs body env) (DueEnd h₀ env.locals x (.int (j : Int) t) m₀ (P (j + 1)) c1 c2 c3 c4 o1 o2 o4 own { s with heap := h, toks := tk }) E { s with heap := h, toks := tk })
    (done : ∀ (o : Obj) (d : Str) (u : Tok) (mv : Option Value) h tk, o.data = .cell (some (.str d u)) → P n d → Fr h₀ env.locals h (fun y => if y = x then mv else m₀ y) → News h₀ env.locals h [(c4, o4), (c3, o), (c2, o2), (c1, o1)] → Q .next { s with heap := h, toks := tk }) :
    wpAny (model prog w) A (pyIter (.ref r)) (fun it s₂ => LoopAtV prog w A h₀ env x body Q E it s₂) E s := by
  refine kst_range (σ := Obj × Str × Nat) (fun c => [(c4, o4), (c3, c.1), (c2, o2), (c1, o1)]) (fun _ => []) (fun c => c.1.data = .cell (some (.str c.2.1 c.2.2))) [] (fun pre c => P pre.length c.2.1) (o3, d₀, td) hh hr hsmall hn F N hd (fun _ hq => nomatch hq) hp ?_ ?_
  · rintro ⟨o, d, u⟩ pre k t um h tk own hk hlt hoff hf hP F' N'
    have ek : k = (pre.length : Int) := by omega
    subst ek
    have em : (fun y => if y = x then some (Value.int (pre.length : Int) t) else kstB (fun z => if ([] : List Str).contains z then um z else m₀ z) [] y) = fun y => if y = x then some (Value.int (pre.length : Int) t) else m₀ y := by
      funext y
      rfl
    rw [em] at F'
    refine wpAny_mono (turn o d u pre.length t h tk own hlt hoff hf hP F' N') (fun f s₂ hq => ?_) fun _ _ e => e
    obtain ⟨rfl, h', tk', o', d', t', rfl, F2, N2, hd', hp'⟩ := hq
    show InvEndN _ _ _ _ _ _ _
    refine kst_end (o', d', t') F2 N2 ?_ ?_ rfl hd' (fun _ hq => nomatch hq) (fun z hz _ _ => ?_) (by rw [List.length_append]; exact hp')
    · intro p hp
      simp only [List.mem_cons, List.not_mem_nil, or_false] at hp ⊢
      rcases hp with h | h | h | h
      · exact .inl h
      · exact .inr (.inl h)
      · exact .inr (.inr (.inl h))
      · exact .inr (.inr (.inr (.inl h)))
    · intro p hp
      exact List.mem_cons_of_mem _ (List.mem_cons_of_mem _ (List.mem_cons_of_mem _ (List.mem_cons_of_mem _ hp)))
    · show (if z = x then _ else m₀ z) = m₀ z
      rw [if_neg hz]
  · rintro ⟨o, d, u⟩ um h tk hf hP F' N'
    rw [rangeKs_length] at hP
    have em : (fun y => if y = x then um y else kstB (fun z => if ([] : List Str).contains z then um z else m₀ z) [] y) = fun y => if y = x then um x else m₀ y := by
      funext y
      by_cases hy : y = x
      · rw [if_pos hy, if_pos hy, hy]
      · rw [if_neg hy, if_neg hy]; rfl
    rw [em] at F'
    exact done o d u (um x) h tk hf hP F' N'
end

def Tx.due {m x : Str} (_ : Mk m) (_ : Tx x) (j : Nat) (d : Str) : Prop := DueIn m x j d
theorem news_tail {h₀ h : Heap} {L : Addr} {p : Addr × Obj} {news : List (Addr × Obj)} (N : News h₀ L h (p :: news)) : News h₀ L h news := fun q hq => N q (List.mem_cons_of_mem _ hq)
theorem due_room {m x : Str} {hM : Mk m} {hT : Tx x} {j : Nat} {d : Str} {b : Int} (h : Tx.due hM hT j d) (hj : j < (b - 0).toNat) (hb : b = (x.length : Int)) {y : Str} (hy : y.length ≤ 3) : d.length + y.length ≤ sizeLine := by
  have h1 := due_len h (by omega)
  have h2 := hT.len
  rw [sizeLine_eq]
  omega
theorem up_short {x : Str} {k : Int} : (Txt.upper (Txt.item x k)).length ≤ 3 := len_upper (Txt.item x k)
theorem lo_short {x : Str} {k : Int} : (Txt.lower (Txt.item x k)).length ≤ 3 := len_lower (Txt.item x k)
end Mine

namespace Mine
open PySem.Calls

section
variable {w : World} {mean : ExcName → Option Value} {mg mb : Str → Option Value} {news : List (Addr × Obj)} {dp un : Nat} {gd : Option (List Code)} {cn : Str} {sc : Scope} {a : Addr} {ccd : Value} {cl : List (Str × Addr)} {outer : List Env} {A₀ : Around} {base h₀ : Heap} {L : Addr}
  {m : Str → Option Value} {s : Shared} {Q E : Value → Shared → Prop}
theorem bp_Ke {x sep y : Str} {t u : Tok} (hpre : BpPre x sep) (e : pairs x sep = y) (B : Below A₀ base outer h₀) (F : Fr h₀ L s.heap m) (X : (hd.heap_39 w.params).In h₀) (N : News h₀ L s.heap news)
    (T : Top hd.view_39 (looseW hd.view_39 [Str.ofString "capwords"]) mean mg mb h₀) (hk : sc.kind = .function) (hd : dp + 3 < recursionLimit) (hu : un + 30 < cLine)
    (hret : ∀ (t : Tok) (h' : Heap) (tk' : Nat), Fr h₀ L h' m → News h₀ L h' news → Q (.str y t) { s with heap := h', toks := tk' }) :
    wpAny (model PySem.Challenge.rw_nb0007_01.row.prog w) (ktrTop dp un gd cn sc L a ccd cl outer) (call (.ref 43) [.str x t, .str sep u]) Q E s := by
  subst e
  exact bp_K B F X N T hk hpre hd hu hret
theorem capwords_Ke {x sep y : Str} {t u : Tok} (hp : CapPre x sep) (e : capw x sep = y) (B : Below A₀ base outer h₀) (F : Fr h₀ L s.heap m) (X : (hd.heap_39 w.params).In h₀) (N : News h₀ L s.heap news)
    (T : Top hd.view_39 (looseW hd.view_39 [Str.ofString "capwords"]) mean mg mb h₀) (hk : sc.kind = .function) (hd : dp + 1 < recursionLimit) (hu : un + 8 < cLine)
    (h : ∀ (t : Tok) (h' : Heap) (tk' : Nat), Fr h₀ L h' m → News h₀ L h' news → Q (.str y t) { s with heap := h', toks := tk' }) :
    wpAny (model PySem.Challenge.rw_nb0007_01.row.prog w) (ktrTop dp un gd cn sc L a ccd cl outer) (call (.ref 22) [.str x t, .str sep u]) Q E s := by
  subst e
  exact capwords_K B F X N T hk hp hd hu h
end

/-- the due text is whole -/
structure Due (m x d : Str) : Prop where
  is : cs d = dueL (cs m) (cs x)
theorem due_whole {m x d : Str} {hM : Mk m} {hT : Tx x} {b : Int} (h : Tx.due hM hT (b - 0).toNat d) (hb : b = (x.length : Int)) : Due m x d := by
  refine ⟨?_⟩
  have e : (b - 0).toNat = x.length := by omega
  have h' : cs d = (dueL (cs m) (cs x)).take (b - 0).toNat := h
  rw [h', e]
  refine List.take_of_length_le ?_
  unfold dueL
  rw [List.length_mapIdx, cs_len]
  exact Nat.le_refl _
theorem Due.bp {m x d : Str} (h : Due m x d) (hM : Mk m) (hT : Tx x) : BpPre x m ∧ pairs x m = d :=
  ⟨⟨hT.text, hM.signs, hM.pos, hM.m4, by have := hT.len; omega⟩, cs_ext ((pairs_due hM.signs hT.text).trans h.is.symm)⟩
theorem capPre_of {m x : Str} (hM : Mk m) (hT : Tx x) : CapPre x m := ⟨by have := hM.pos; exact beq_eq_false_iff_ne.mpr (by omega), hM.m4, by have := hT.len; omega⟩
/-- what capwords told, beside what was due -/
structure Tol (m x told due : Str) (p : Int) : Prop where
  pos : 1 ≤ p
  told : Told x m told due p.toNat
  asc : Asc due
theorem due_asc {m x d : Str} (hT : Tx x) (hD : Due m x d) : Asc d := fun c hc => by
  rw [hD.is] at hc
  unfold dueL at hc
  refine mapIdx_asc (fun k e he => ?_) c hc
  have := hT.text.asc e (List.mem_of_getElem? he)
  unfold up lo
  split <;> split <;> omega
theorem tol_of {m x due : Str} {p : Int} (hM : Mk m) (hT : Tx x) (hP : Per m p) (hD : Due m x due) : Tol m x (capw x m) due p := ⟨hP.pos, told_of hT.text hM.signs hP.least hD.is, due_asc hT hD⟩

/-- told[k] != due[k] -/
def apT (told due : Str) (k : Int) : Bool := Txt.item told k != Txt.item due k
theorem item_code {x : Str} {k : Int} (h0 : 0 ≤ k) (h1 : k < (x.length : Int)) : ∃ c, (cs x)[k.toNat]? = some c ∧ Txt.item x k = ⟨#[c]⟩ := by
  have hj : k.toNat < x.length := by omega
  have e := item_is hj
  rw [show ((k.toNat : Nat) : Int) = k by omega] at e
  exact ⟨_, List.getElem?_eq_getElem (by rw [cs_len]; exact hj), e⟩
theorem one_ne {a b : Nat} (h : (⟨#[a]⟩ : Str) ≠ ⟨#[b]⟩) : a ≠ b := fun e => h (by rw [e])
/-- a place that is apart: the law's two asks -/
theorem apart_ask {m x told due : Str} {p : Int} (h : Tol m x told due p) {n : Nat} {k : Int} (hk : k ∈ (rangeKs 0 n).filter (apT told due)) (hn : n = x.length) :
    0 ≤ k ∧ k < (x.length : Int) ∧ Txt.item told k = Txt.lower (Txt.item due k) ∧ p ≤ k := by
  obtain ⟨hr, ht⟩ := List.mem_filter.mp hk
  have hb := mem_rangeKs hr
  have l1 := h.told.len
  have l2 := h.told.lenD
  obtain ⟨a, ha, ea⟩ := item_code (x := told) (k := k) hb.1 (by omega)
  obtain ⟨b, hbb, eb⟩ := item_code (x := due) (k := k) hb.1 (by omega)
  unfold apT at ht
  rw [ea, eb] at ht
  have hne : a ≠ b := one_ne (by simpa using ht)
  obtain ⟨h1, h2⟩ := h.told.apart k.toNat a b ha hbb hne
  refine ⟨hb.1, by omega, ?_, by omega⟩
  have hasc : b < 128 := h.asc b (List.mem_of_getElem? hbb)
  rw [ea, eb, h1]
  apply cs_ext
  have hA : Asc (⟨#[b]⟩ : Str) := fun c hc => by
    have hc' : c ∈ [b] := hc
    rw [List.mem_singleton.mp hc']; exact hasc
  rw [lower_cs hA]
  rfl
theorem apart_none {m x told due : Str} {p : Int} (h : Tol m x told due p) (hp : p = (m.length : Int)) (n : Nat) : (rangeKs 0 n).filter (apT told due) = [] := by
  have e := h.told.same (by omega)
  refine List.filter_eq_nil_iff.mpr fun k _ => ?_
  unfold apT
  rw [e]
  simp

/-- a loop over a list of the call's own ints that stores nothing: what a turn leaves -/
def AllEnd (h₀ : Heap) (L : Addr) (x : Str) (v : Value) (m₀ : Str → Option Value) (news : List (Addr × Obj)) (s₁ : Shared) (f : Flow) (s₂ : Shared) : Prop :=
  f = .next ∧ ∃ h' tk', s₂ = { s₁ with heap := h', toks := tk' } ∧ Fr h₀ L h' (fun y => if y = x then some v else m₀ y) ∧ News h₀ L h' news
theorem allEnd_intro {h₀ h' : Heap} {L : Addr} {x : Str} {v : Value} {m₀ : Str → Option Value} {news : List (Addr × Obj)} {s₁ : Shared} {tk' : Nat}
    (F : Fr h₀ L h' (fun y => if y = x then some v else m₀ y)) (N : News h₀ L h' news) : AllEnd h₀ L x v m₀ news s₁ .next { s₁ with heap := h', toks := tk' } := ⟨rfl, h', tk', rfl, F, N⟩
section
variable {prog : Program} {w : World} {A : Around} {E : Value → Shared → Prop} {s : Shared} {env : Env} {h₀ : Heap} {x : Str} {body : List Stmt} {Q : Flow → Shared → Prop}
theorem all_loop {l : Addr} {vs : List Value} {ns : List Int} {nn : Nat} {m₀ : Str → Option Value} {news : List (Addr × Obj)} (hh : A.handled = none) (hl : (l, PySem.W.listOf vs.toArray nn) ∈ news) (hi : IntsAre vs ns) (F : Fr h₀ env.locals s.heap m₀)
    (N : News h₀ env.locals s.heap news)
    (turn : ∀ (k : Int) (t : Tok) (h : Heap) (tk : Nat) (own : List (Addr × Obj)), k ∈ ns → OwnOff own (news.map (·.1)) → Fr h₀ env.locals h (fun y => if y = x then some (.int k t) else m₀ y) → News h₀ env.locals h (news ++ own) →
      wpAny (model prog w) A (execs body env) (AllEnd h₀ env.locals x (.int k t) m₀ (news ++ own) { s with heap := h, toks := tk }) E { s with heap := h, toks := tk })
    (done : ∀ (mv : Option Value) h tk, Fr h₀ env.locals h (fun y => if y = x then mv else m₀ y) → News h₀ env.locals h news → Q .next { s with heap := h, toks := tk }) :
    wpAny (model prog w) A (pyIter (.ref l)) (fun it s₂ => LoopAtV prog w A h₀ env x body Q E it s₂) E s := by
  refine kst_listL (σ := Unit) (vs := vs) (ns := ns) (nn := nn) (fun _ => news) (fun _ => []) (fun _ => True) [] (fun _ _ => True) () hh (fun _ => hl) hi F N trivial (fun _ hq => nomatch hq) trivial ?_ ?_
  · rintro ⟨⟩ pre post k t um h tk own _ hk hoff _ _ F' N'
    refine wpAny_mono (turn k t h tk own hk hoff F' N') (fun f s₂ hq => ?_) fun _ _ e => e
    obtain ⟨rfl, h', tk', rfl, F2, N2⟩ := hq
    show InvEndN _ _ _ _ _ _ _
    refine kst_end () F2 N2 (fun p hp => List.mem_append_left _ hp) (fun p hp => List.mem_append_right _ hp) rfl trivial (fun _ hq => nomatch hq) (fun z hz _ _ => ?_) trivial
    show (if z = x then _ else m₀ z) = m₀ z
    rw [if_neg hz]
  · rintro ⟨⟩ um h tk _ _ F' N'
    have em : (fun y => if y = x then um y else kstB (fun z => if ([] : List Str).contains z then um z else m₀ z) [] y) = fun y => if y = x then um x else m₀ y := by
      funext y
      by_cases hy : y = x
      · rw [if_pos hy, if_pos hy, hy]
      · rw [if_neg hy, if_neg hy]; rfl
    rw [em] at F'
    exact done (um x) h tk F' N'
end

/-- the last texts: front, tail, a letter -/
structure Tail (m t : Str) (p : Int) : Prop where
  least : Least (cs m) p.toNat
  lt : p < (m.length : Int)
  is : cs t = (cs m).drop (m.length - p.toNat)
theorem tail_of {m : Str} {p : Int} (hM : Mk m) (hP : Per m p) (hne : p ≠ (m.length : Int)) : Tail m (Txt.slice m (some ((m.length : Int) - p)) none) p := by
  have h1 := hP.pos
  have h2 := hP.le
  refine ⟨hP.least, by omega, ?_⟩
  have e : ((m.length - p.toNat : Nat) : Int) = (m.length : Int) - p := by omega
  have a := slice_from m (m.length - p.toNat) (by omega)
  rw [e] at a
  exact a
theorem Tail.len {m t : Str} {p : Int} (h : Tail m t p) (hM : Mk m) : t.length ≤ 4 := by
  have := hM.m4
  rw [← cs_len, h.is, List.length_drop, cs_len]
  omega
theorem Tail.all {m t F : Str} {p : Int} (h : Tail m t p) (hM : Mk m) (hF : F = Str.ofString "" ∨ F = m) :
    CapPre (F ++ t ++ Str.ofString "a") m ∧ capw (F ++ t ++ Str.ofString "a") m = F ++ t ++ Str.ofString "a" ∧ BpPre (F ++ t ++ Str.ofString "a") m ∧ pairs (F ++ t ++ Str.ofString "a") m = F ++ t ++ Str.ofString "A" := by
  have l := h.len hM
  have h4 := hM.m4
  have h1 := hM.pos
  have lF : F.length ≤ 4 := by
    rcases hF with rfl | rfl
    · decide +kernel
    · exact h4
  have hF' : cs F = [] ∨ F = m := by
    rcases hF with rfl | rfl
    · exact .inl (by decide +kernel)
    · exact .inr rfl
  have lx : (F ++ t ++ Str.ofString "a").length ≤ 9 := by rw [Str.length_append, Str.length_append, len_a]; omega
  obtain ⟨a1, a2, a3⟩ := tail_texts hM.signs h.least h.is hF'
  have hlt := h.lt
  have hpos := h.least.pos
  exact ⟨⟨beq_eq_false_iff_ne.mpr (by omega), h4, by omega⟩, a2 (by omega), ⟨a1, hM.signs, h1, h4, by omega⟩, a3⟩
end Mine
namespace Mine
def Barrier (p : Prop) : Prop := p
theorem Barrier.out {p : Prop} (h : Barrier p) : p := h
theorem Barrier.mk {p : Prop} (h : p) : Barrier p := h
end Mine
namespace Mine
theorem ite_same {a : Str} {P Q : Prop} (h : Q) : if (a != a) = true then P else Q := by
  have e : (a != a) = false := by simp
  rw [e, if_neg Bool.false_ne_true]
  exact h
theorem ite_sameI {a : Int} {P Q : Prop} (h : Q) : if (a != a) = true then P else Q := by
  have e : (a != a) = false := by simp
  rw [e, if_neg Bool.false_ne_true]
  exact h
section
variable {prog : Program} {w : World} {A : Around} {E : Value → Shared → Prop} {s : Shared} {t : Tok} {Q : Value → Shared → Prop}
theorem len_e {x : Str} {n : Nat} (e : x.length = n) (hn : n ≤ 1000) (h : ∀ t' k, Q (.int (n : Int) t') { s with toks := k }) : wpAny (model prog w) A (call (.builtin "len") [.str x t]) Q E s := by
  subst e
  exact P.len_str (by omega) (h _ _)
end
end Mine
namespace Mine
def Tol.tst {m x told due : Str} {p : Int} (_ : Tol m x told due p) (k : Int) : Bool := apT told due k
section
variable {prog : Program} {w : World} {A : Around} {E : Value → Shared → Prop} {s : Shared} {t u : Tok} {Q : Value → Shared → Prop}
theorem ne_same {x y : Str} (e : x = y) (h : Q (.bool false) s) : wpAny (model prog w) A (compareOp .NotEq (.str x t) (.str y u)) Q E s := by
  subst e
  refine PyProof.Rows.ne_str ?_
  have e : (x != x) = false := by simp
  first
    | (rw [e]; exact h)
    | (simp; exact h)
end
end Mine
namespace Mine
theorem apart_none' {m x told due : Str} {p : Int} (h : Tol m x told due p) (hp : p = (m.length : Int)) (n : Nat) : (rangeKs 0 n).filter (Tol.tst h) = [] := apart_none h hp n
end Mine

namespace Mine
theorem with_end {M : Model} {A : Around} {t : Sem Flow} {E : Value → Shared → Prop} {h h₀ : Heap} {L : Addr} {tk : Nat} {s₁ : Shared} {m : Str → Option Value} {Q : Flow → Shared → Prop} (_ : Fr h₀ L h m)
    (H : ∀ (m' : Str → Option Value) (h' : Heap) (tk' : Nat), Fr h₀ L h' m' → Q (.ret (.bool true)) { s₁ with heap := h', toks := tk' })
    (K : (∀ (m' : Str → Option Value) (h' : Heap) (tk' : Nat), Fr h₀ L h' m' → Q (.ret (.bool true)) { s₁ with heap := h', toks := tk' }) → wpAny M A t Q (fun _ _ => False) { s₁ with heap := h, toks := tk }) :
    wpAny M A t Q E { s₁ with heap := h, toks := tk } := wpAny_mono (K H) (fun _ _ h => h) fun _ _ h => h.elim
structure SegA : Prop where
  mk ::
structure SegB : Prop where
  mk ::
structure SegC : Prop where
  mk ::
structure SegD : Prop where
  mk ::
end Mine
open Mine
namespace Mine
theorem len_0 : (Str.ofString "").length = 0 := by decide +kernel
end Mine
local macro_rules | `(tactic| walk_at "call ref") => `(tactic| ((rename SegA => hSeg); (k_here; (with_reducible show wpAny _ _ (call (Value.ref 36) [Value.int _ _]) _ _ _); k_dflt (refine' mark_K ?k1 ?k2 ?k3 ?k4 ?k5 ?kK ?kd ?ku ?_; (case k1 => k_asm); (case k2 => k_asm); (case k3 => k_asm); (case k4 => k_asm); (case k5 => k_asm); (case kK => exact rfl); (case kd => ktr_room); (case ku => ktr_units)); intro x9 t9 h9 tk9 s9 p9 q9 F9 N9; (have hMk : Mk x9 := ⟨s9, p9, q9⟩); clear s9 p9 q9; (try k_sweep))))
local macro_rules | `(tactic| walk_at "CompSrc") => `(tactic| ((rename SegA => hSeg); (k_here; (with_reducible show LCg.CompSrc _ _ _ _ _ _ _ _ (PySem.Str.ofString "x") _ _ _ _ _); k_dflt (refine LCg.CompSrc.ledger (by rfl) (by k_asm) (by k_asm) (by k_mem) (by size_fits) ?_); intro g'; (refine comp_texts Piece (fun i v hv => int_at (by assumption) hv) (fun k' t' I' oI' C' oC' D' m' ys' h' tk' E' hC' hx' F' N' off' ne' => ?_) (fun ys' ws' hS' hl' hp' => ?_)); (all_goals (try (simp only [LCg.Off3, and_true] at off'))))))
local macro_rules | `(tactic| walk_at "CompEnd") => `(tactic| ((rename SegA => hSeg); ((with_reducible rename Mk _ => hM); (refine LCg.CompEnd.intro (by assumption) (by assumption) _ (by lcg_sub) (by lcg_off) (by lcg_src) (txEl_intro ?_)); first | exact piece_mark hM | exact piece_lit (by decide +kernel) (by decide +kernel))))
local macro_rules | `(tactic| walk_at "call builtin:str.join") => `(tactic| ((rename SegA => hSeg); (k_here; (with_reducible show wpAny _ _ (call (Value.builtin "str.join") [Value.str (PySem.Str.ofString "") _, Value.ref _]) _ _ _); (with_reducible rename StrsAre _ _ => hS9); (refine join_pieces (News.isList (by k_asm) (by k_mem)) hS9 (by assumption) ?hn9 ?_); (case hn9 => (with_reducible rename (_ = Array.size (List.toArray _)) => hl9; rw [hl9, List.size_toArray, IntsAre.length (by assumption)]; exact numbers_len)); intro x9 t9 k9 hTx9)))
local macro_rules | `(tactic| walk_at "call builtin:len") => `(tactic| ((rename SegB => hSeg); (k_here; (with_reducible rename Mk _ => hM); (with_reducible show wpAny _ _ (call (Value.builtin "len") [Value.str _ _]) _ _ _); (first | (refine P.len_str (by have h2 := Mk.m4 hM; omega) ?_) | ((with_reducible rename Tx _ => hT); (refine P.len_str (by have h2 := Tx.len hT; omega) ?_))))))
local macro_rules | `(tactic| walk_at "eval ListComp") => `(tactic| ((rename SegB => hSeg); (k_here; (with_reducible rename Mk _ => hM); k_dflt (refine LCt.ListComp_T (F₀ := by k_asm) (by with_unfolding_all rfl) (by decide) (by rfl) (by decide) (by rfl) ?_))))
local macro_rules | `(tactic| walk_at "CompSrcT") => `(tactic| ((rename SegB => hSeg); (k_here; (with_reducible rename Mk _ => hM); k_dflt (refine LCt.CompSrcT.range (by rfl) (by k_asm) (by k_asm) (by assumption) (small_one (by decide) (by decide) (by omega) (by have h1 := Mk.m4 hM; omega)) (rangeSize_nat _ _) (by have h1 := Mk.m4 hM; rw [PySem.sizeLine_eq]; omega) ?_); intro g'; (refine comp_tests (Mk.tst hM) (fun k' t' I' oI' C' oC' D' m' ys' h' tk' E' a' b' hC' hx' F' N' off' ne' => ?_) (fun ys' hI9 => ?_)); (all_goals (try (simp only [LCg.Off3, and_true] at off'))))))
local macro_rules | `(tactic| walk_at "subscriptTail Name Slice str ref") => `(tactic| ((rename SegB => hSeg); (k_here; (with_reducible rename Mk _ => hM); (with_reducible rename Tx _ => hT); k_dflt (first
  | refine slice_strN_sn (by k_asm) (by k_asm) ?_ (hsz := by have h1 := Mk.m4 hM; rw [PySem.sizeLine_eq]; omega)
  | refine slice_strN_ns (by k_asm) (by k_asm) ?_ (hsz := by have h1 := Mk.m4 hM; rw [PySem.sizeLine_eq]; omega)
  | refine slice_strN_ns (by k_asm) (by k_asm) ?_ (hsz := by have h1 := Tx.len hT; rw [PySem.sizeLine_eq]; omega)); intro h' t' k' F' N')))
local macro_rules | `(tactic| walk_at "ite") => `(tactic| ((rename SegB => hSeg); ((with_reducible show if (_ == _) = true then _ else _); refine ite_by (fun hb => ?_) (fun hb => ?_))))
local macro_rules | `(tactic| walk_at "ite") => `(tactic| ((rename SegB => hSeg); ((with_reducible show if (Txt.endswith _ _) = true then _ else _); refine ite_by (fun hb => ?_) (fun hb => ?_))))
local macro_rules | `(tactic| walk_at "IntIf") => `(tactic| ((rename SegB => hSeg); exact intIf_intro (by assumption)))
local macro_rules | `(tactic| walk_at "NoIf") => `(tactic| ((rename SegB => hSeg); exact noIf_intro (by assumption)))
local macro_rules | `(tactic| walk_at "exec For Name Call cons nil") => `(tactic| ((rename SegB => hSeg); (k_here; (with_reducible rename Per _ _ => hP); (rename Fr _ _ _ _ => lF'); (with_unfolding_all refine' For_invVF lF' ?k1 ?k2 ?_; (case k1 => exact rfl); (case k2 => exact rfl); k_whole))))
local macro_rules | `(tactic| walk_at "pyIter ref") => `(tactic| ((rename SegB => hSeg); (k_here; (with_reducible rename Mk _ => hM); (with_reducible rename Tx _ => hT); (with_reducible rename Per _ _ => hP); k_dflt (refine due_loop (Tx.due hM hT) (by rfl) (by assumption) (small_one (by decide) (by decide) (by omega) (by have h1 := Tx.len hT; omega)) (rangeSize_nat _ _) (by k_asm) (news_tail (by k_asm)) (by k_asm) due_start (fun o' d' u' j' t' h' tk' own' lt' off' hd' hp' F' N' => ?_) (fun o' d' u' mv' h' tk' hd' hp' F' N' => Barrier.out ?_)))))
local macro_rules | `(tactic| walk_at "binaryOp Add str str") => `(tactic| ((rename SegB => hSeg); (k_here; (with_reducible rename Mk _ => hM); (with_reducible rename Tx _ => hT); (with_reducible show wpAny _ _ (binaryOp Operator.Add (Value.str _ _) (Value.str _ _)) _ _ _); (refine SB.add ?_ (by have h1 := Mk.m4 hM; have h2 := Tx.len hT; refine Nat.le_trans (Nat.add_le_add_left (Txt.slice_le _ _ _) _) ?_; rw [sizeLine_eq]; omega)); intro _ _)))
local macro_rules | `(tactic| walk_at "call builtin:str.endswith") => `(tactic| ((rename SegB => hSeg); (k_here; (with_reducible show wpAny _ _ (call (Value.builtin "str.endswith") [Value.str _ _, Value.str _ _]) _ _ _); refine SC.endswith ?_)))
local macro_rules | `(tactic| walk_at "subscriptTail") => `(tactic| ((rename SegB => hSeg); (k_here; (with_reducible rename Tx _ => hT); (with_reducible show wpAny _ _ (subscriptTail _ _ (Value.str _ _) (Value.int _ _)) _ _ _); (refine KXi.item rfl (by omega) (by omega) (by have h1 := Tx.len hT; omega) ?_); intro _)))
local macro_rules | `(tactic| walk_at "call builtin:str.upper") => `(tactic| ((rename SegB => hSeg); (k_here; (with_reducible show wpAny _ _ (call (Value.builtin "str.upper") [Value.str (Txt.item _ _) _]) _ _ _); (refine SCL.upper (show 1 ≤ _ by decide) ?_); intro _)))
local macro_rules | `(tactic| walk_at "call builtin:str.lower") => `(tactic| ((rename SegB => hSeg); (k_here; (with_reducible show wpAny _ _ (call (Value.builtin "str.lower") [Value.str (Txt.item _ _) _]) _ _ _); (refine SCL.lower (show 1 ≤ _ by decide) ?_); intro _)))
local macro_rules | `(tactic| walk_at "inplaceOp Add str str") => `(tactic| ((rename SegB => hSeg); (k_here; (with_reducible show wpAny _ _ (inplaceOp Operator.Add (Value.str _ _) (Value.str _ _)) _ _ _); (refine SB.iadd ?_ (due_room (by assumption) (by assumption) rfl (by first | exact up_short | exact lo_short))); intro _ _)))
local macro_rules | `(tactic| walk_at "DueEnd") => `(tactic| ((rename SegB => hSeg); ((with_reducible rename Tx _ => hT); (refine dueEnd_intro (by assumption) (by assumption) (by assumption) ?_); first | ((with_reducible show Tx.due _ _ _ (_ ++ Txt.upper _)); exact due_up (Tx.text hT) (by assumption) (by omega) (by assumption)) | ((with_reducible show Tx.due _ _ _ (_ ++ Txt.lower _)); exact due_lo (Tx.text hT) (by assumption) (by omega) (by assumption)))))
local macro_rules | `(tactic| walk_at "CompEnd") => `(tactic| ((rename SegB => hSeg); (first
  | (refine LCg.CompEnd.intro (by assumption) (by assumption) _ (by lcg_sub) (by lcg_off) (by lcg_src) (intIf_intro (by assumption)))
  | (refine LCg.CompEnd.intro (by assumption) (by assumption) _ (by lcg_sub) (by lcg_off) (by lcg_src) (noIf_intro (by assumption))))))
local macro_rules | `(tactic| walk_at "call builtin:min") => `(tactic| ((rename SegB => hSeg); (k_here; (with_reducible rename Mk _ => hM); (with_reducible rename IntsAre _ (List.filter _ _) => hI9); (refine min_list_N (by rfl) (by k_asm) (by k_asm) (News.isList (by k_asm) (by k_mem)) hI9 (per_ne hM (by omega)) ?_); intro h' M' t' tk' F' N' in' le'; (have hPer := per_of hM (by omega) in' le'); clear in' le')))
local macro_rules | `(tactic| walk_at "call ref") => `(tactic| ((rename SegC => hSeg); (k_here; (with_reducible rename Mk _ => hM); (with_reducible rename Tx _ => hT); (with_reducible rename Due _ _ _ => hD); (with_reducible show wpAny _ _ (call (Value.ref 43) [Value.str _ _, Value.str _ _]) _ _ _); k_dflt (refine' bp_Ke (Due.bp hD hM hT).1 (Due.bp hD hM hT).2 ?k1 ?k2 ?k3 ?k4 ?k5 ?kK ?kd ?ku ?_; (case k1 => k_asm); (case k2 => k_asm); (case k3 => k_asm); (case k4 => k_asm); (case k5 => k_asm); (case kK => exact rfl); (case kd => ktr_room); (case ku => ktr_units)); intro t9 h9 tk9 F9 N9; (try k_sweep))))
local macro_rules | `(tactic| walk_at "call ref") => `(tactic| ((rename SegC => hSeg); (k_here; (with_reducible rename Mk _ => hM); (with_reducible rename Tx _ => hT); (with_reducible rename Per _ _ => hP); (with_reducible rename Due _ _ _ => hD); (with_reducible show wpAny _ _ (call (Value.ref 22) [Value.str _ _, Value.str _ _]) _ _ _); k_dflt (refine' capwords_Ke (capPre_of hM hT) rfl ?k1 ?k2 ?k3 ?k4 ?k5 ?kK ?kd ?ku ?_; (case k1 => k_asm); (case k2 => k_asm); (case k3 => k_asm); (case k4 => k_asm); (case k5 => k_asm); (case kK => exact rfl); (case kd => ktr_room); (case ku => ktr_units)); (have hTol := tol_of hM hT hP hD); intro t9 h9 tk9 F9 N9; (try k_sweep))))
local macro_rules | `(tactic| walk_at "ite") => `(tactic| ((rename SegC => hSeg); (first | (with_reducible refine ite_same ?_) | (with_reducible refine ite_sameI ?_))))
local macro_rules | `(tactic| walk_at "call builtin:len") => `(tactic| ((rename SegC => hSeg); (k_here; (with_reducible rename Tx _ => hT); (with_reducible rename Tol _ _ _ _ _ => hL); (with_reducible show wpAny _ _ (call (Value.builtin "len") [Value.str _ _]) _ _ _); (first | (refine len_e (Told.len (Tol.told hL)) (by have h1 := Tx.len hT; omega) ?_) | (refine len_e (Told.lenD (Tol.told hL)) (by have h1 := Tx.len hT; omega) ?_)); intro _ _)))
local macro_rules | `(tactic| walk_at "exec Assign cons ListComp") => `(tactic| ((rename SegC => hSeg); (k_here; (with_reducible rename Tol _ _ _ _ _ => hL); k_dflt (refine LCt.Assign_ListComp_T (F₀ := by k_asm) (by rfl) (by with_unfolding_all rfl) (by with_unfolding_all rfl) (by decide) (by rfl) (by decide) (by rfl) (by rfl) (by rfl) ?_))))
local macro_rules | `(tactic| walk_at "CompSrcT") => `(tactic| ((rename SegC => hSeg); (k_here; (with_reducible rename Tx _ => hT); (with_reducible rename Tol _ _ _ _ _ => hL); k_dflt (refine LCt.CompSrcT.range (by rfl) (by k_asm) (by k_asm) (by assumption) (small_one (by decide) (by decide) (by omega) (by have h1 := Tx.len hT; omega)) (rangeSize_nat _ _) (by have h1 := Tx.len hT; rw [PySem.sizeLine_eq]; omega) ?_); intro g'; (refine comp_tests (Tol.tst hL) (fun k' t' I' oI' C' oC' D' m' ys' h' tk' E' a' b' hC' hx' F' N' off' ne' => ?_) (fun ys' hI9 => ?_)); (all_goals (try (simp only [LCg.Off3, and_true] at off'))))))
local macro_rules | `(tactic| walk_at "subscriptTail") => `(tactic| ((rename SegC => hSeg); (k_here; (with_reducible rename Tx _ => hT); (with_reducible rename Tol _ _ _ _ _ => hL); (with_reducible show wpAny _ _ (subscriptTail _ _ (Value.str _ _) (Value.int _ _)) _ _ _); first
  | ((refine KXi.item (Told.len (Tol.told hL)) (by omega) (by omega) (by have h1 := Tx.len hT; omega) ?_); intro _)
  | ((refine KXi.item (Told.lenD (Tol.told hL)) (by omega) (by omega) (by have h1 := Tx.len hT; omega) ?_); intro _))))
local macro_rules | `(tactic| walk_at "ite") => `(tactic| ((rename SegC => hSeg); ((with_reducible show if (Txt.item _ _ != Txt.item _ _) = true then _ else _); refine ite_by (fun hb => ?_) (fun hb => ?_))))
local macro_rules | `(tactic| walk_at "IntIf") => `(tactic| ((rename SegC => hSeg); exact intIf_intro (by assumption)))
local macro_rules | `(tactic| walk_at "NoIf") => `(tactic| ((rename SegC => hSeg); exact noIf_intro (by assumption)))
local macro_rules | `(tactic| walk_at "exec For Name Name cons nil") => `(tactic| ((rename SegC => hSeg); (k_here; (with_reducible rename Tol _ _ _ _ _ => hL); (rename Fr _ _ _ _ => lF'); (with_unfolding_all refine' For_invVF lF' ?k1 ?k2 ?_; (case k1 => exact rfl); (case k2 => exact rfl); k_whole))))
local macro_rules | `(tactic| walk_at "pyIter ref") => `(tactic| ((rename SegC => hSeg); (k_here; (with_reducible rename Tol _ _ _ _ _ => hL); (with_reducible rename IntsAre _ (List.filter (Tol.tst _) _) => hI9); k_dflt (refine' all_loop ?k0 ?k1 hI9 ?k2 ?k3 (fun k' t' h' tk' own' in' off' F' N' => ?_) (fun mv' h' tk' F' N' => Barrier.out ?_); (case k0 => rfl); (case k2 => k_asm); (case k3 => k_asm); (case k1 => k_mem)); (all_goals (try ((obtain ⟨q1, q2, q3, q4⟩ := apart_ask hL in' (by omega)); (simp only [List.cons_append, List.nil_append] at N'); clear in'))))))
local macro_rules | `(tactic| walk_at "call builtin:str.lower") => `(tactic| ((rename SegC => hSeg); (k_here; (with_reducible show wpAny _ _ (call (Value.builtin "str.lower") [Value.str (Txt.item _ _) _]) _ _ _); (refine SCL.lower (show 1 ≤ _ by decide) ?_); intro _)))
local macro_rules | `(tactic| walk_at "compareOp NotEq str str") => `(tactic| ((rename SegC => hSeg); (k_here; refine ne_same (by assumption) ?_)))
local macro_rules | `(tactic| walk_at "AllEnd") => `(tactic| ((rename SegC => hSeg); exact allEnd_intro (by assumption) (by assumption)))
local macro_rules | `(tactic| walk_at "subscriptTail Name Slice str ref") => `(tactic| ((rename SegD => hSeg); (k_here; (with_reducible rename Mk _ => hM); (with_reducible rename Per _ _ => hP); k_dflt (refine slice_strN_sn (by k_asm) (by k_asm) ?_ (hsz := by have h1 := Mk.m4 hM; rw [PySem.sizeLine_eq]; omega)); (have hTl := tail_of hM hP (by first | assumption | omega | (intro hq; simp_all))); intro h' t' k' F' N')))
local macro_rules | `(tactic| walk_at "binaryOp Add str str") => `(tactic| ((rename SegD => hSeg); (k_here; (with_reducible rename Mk _ => hM); (with_reducible rename Tail _ _ _ => hTl); (with_reducible show wpAny _ _ (binaryOp Operator.Add (Value.str _ _) (Value.str _ _)) _ _ _); (refine SB.add ?_ (by have h1 := Mk.m4 hM; have h2 := Tail.len hTl hM; (try simp only [Str.length_append, len_a, len_A, len_0]); rw [sizeLine_eq]; omega)); intro _ _)))
local macro_rules | `(tactic| walk_at "call ref") => `(tactic| ((rename SegD => hSeg); (k_here; (with_reducible rename Mk _ => hM); (with_reducible rename Tail _ _ _ => hTl); (with_reducible show wpAny _ _ (call (Value.ref 22) [Value.str _ _, Value.str _ _]) _ _ _); k_dflt (first
  | (refine' capwords_Ke (Tail.all hTl hM (.inl rfl)).1 (Tail.all hTl hM (.inl rfl)).2.1 ?k1 ?k2 ?k3 ?k4 ?k5 ?kK ?kd ?ku ?_; (case k1 => k_asm); (case k2 => k_asm); (case k3 => k_asm); (case k4 => k_asm); (case k5 => k_asm); (case kK => exact rfl); (case kd => ktr_room); (case ku => ktr_units))
  | (refine' capwords_Ke (Tail.all hTl hM (.inr rfl)).1 (Tail.all hTl hM (.inr rfl)).2.1 ?k1 ?k2 ?k3 ?k4 ?k5 ?kK ?kd ?ku ?_; (case k1 => k_asm); (case k2 => k_asm); (case k3 => k_asm); (case k4 => k_asm); (case k5 => k_asm); (case kK => exact rfl); (case kd => ktr_room); (case ku => ktr_units))); intro t9 h9 tk9 F9 N9; (try k_sweep))))
local macro_rules | `(tactic| walk_at "call ref") => `(tactic| ((rename SegD => hSeg); (k_here; (with_reducible rename Mk _ => hM); (with_reducible rename Tail _ _ _ => hTl); (with_reducible show wpAny _ _ (call (Value.ref 43) [Value.str _ _, Value.str _ _]) _ _ _); k_dflt (first
  | (refine' bp_Ke (Tail.all hTl hM (.inl rfl)).2.2.1 (Tail.all hTl hM (.inl rfl)).2.2.2 ?k1 ?k2 ?k3 ?k4 ?k5 ?kK ?kd ?ku ?_; (case k1 => k_asm); (case k2 => k_asm); (case k3 => k_asm); (case k4 => k_asm); (case k5 => k_asm); (case kK => exact rfl); (case kd => ktr_room); (case ku => ktr_units))
  | (refine' bp_Ke (Tail.all hTl hM (.inr rfl)).2.2.1 (Tail.all hTl hM (.inr rfl)).2.2.2 ?k1 ?k2 ?k3 ?k4 ?k5 ?kK ?kd ?ku ?_; (case k1 => k_asm); (case k2 => k_asm); (case k3 => k_asm); (case k4 => k_asm); (case k5 => k_asm); (case kK => exact rfl); (case kd => ktr_room); (case ku => ktr_units))); intro t9 h9 tk9 F9 N9; (try k_sweep))))
local macro_rules | `(tactic| walk_at "compareOp NotEq str str") => `(tactic| ((rename SegD => hSeg); (k_here; (with_reducible refine ne_same rfl ?_))))
set_option maxRecDepth 100000 in
set_option maxHeartbeats 40000000 in
theorem PySem.Challenge.cw_nb0007_01_holds : PySem.Challenge.rw_nb0007_01.Holds := by
  w_top off
  refine Mine.hd ?_
  k_go0
  (all_goals try k_fold)
  rename Fr _ _ _ _ => F0
  refine with_end F0 ?_ ?_
  · intro m' h' tk' F'
    k_steps
  · intro hend
    clear_value qk
    clear ek
    try (rename Ground _ _ _ _ _ _ _ _ _ => z; clear z)
    try (rename Hook.says _ _ _ => z; clear z)
    try (rename Flt.MathXP _ _ _ => z; clear z)
    try (rename LooseAre _ _ _ => z; clear z)
    try (rename Tables _ _ _ _ => z; clear z)
    try (rename TopE _ _ _ _ => z; clear z)
    try (rename TopW _ _ _ => z; clear z)
    try (rename Heap.CodeRec _ _ _ => z; clear z)
    try (rename Dflts _ _ _ _ => z; clear z)
    try (rename Dflts _ _ _ _ _ _ => z; clear z)
    try (rename Glob _ _ _ _ _ _ _ _ => z; clear z)
    try (rename CellsAre _ _ _ => z; clear z)
    try (rename ReadsAll _ _ _ _ => z; clear z)
    try (rename Well _ _ _ _ => z; clear z)
    try (rename Reads _ _ _ _ => z; clear z)
    try (rename ReadsAllW _ _ _ _ _ _ => z; clear z)
    try (rename BMod _ _ _ _ _ => z; clear z)
    dsimp only
    have hSeg := SegA.mk
    k_steps
    rename Fr _ _ _ _ => F1
    rename News _ _ _ _ => N1
    (rename SegA => hSeg); clear hSeg
    have hSeg := SegB.mk
    rename Fr _ _ _ _ => F1
    rename News _ _ _ _ => N1
    refine fr_hide F1 ?_
    clear F1
    intro m0 F2
    have N2 := news_drop 5 N1
    clear N1
    simp only [List.drop_succ_cons, List.drop_zero] at N2
    rename (Obj.data _ = Data.cell (some _)) => z
    have dM := Hide.mk z
    clear z
    rename (Obj.data _ = Data.cell _) => z
    clear z
    rename (Obj.data _ = Data.cell _) => z
    have d1 := Hide.mk (cell_none z rfl)
    clear z
    rename (Obj.data _ = Data.cell _) => z
    have d2 := Hide.mk (cell_none z rfl)
    clear z
    rename (Obj.data _ = Data.cell _) => z
    have d3 := Hide.mk (cell_none z rfl)
    clear z
    replace dM := dM.out
    replace d1 := d1.out
    replace d2 := d2.out
    replace d3 := d3.out
    k_steps
    refine Barrier.mk ?_
    rename Tx.due _ _ _ _ => z
    have hDue := due_whole z rfl
    clear z
    dsimp only
    (rename SegB => hSeg); clear hSeg
    have hSeg := SegC.mk
    k_steps
    refine Barrier.mk ?_
    dsimp only
    (rename SegC => hSeg); clear hSeg
    have hSeg := SegD.mk
    k_steps
    · rename ∀ (_ : Str → Option Value) (_ : Heap) (_ : Nat), Fr _ _ _ _ → _ => hend
      rename Tol _ _ _ _ _ => hL
      rw [decide_eq_true (apart_none' hL (by assumption) _)]
      exact hend _ _ _ (by k_asm)
    · rename ∀ (_ : Str → Option Value) (_ : Heap) (_ : Nat), Fr _ _ _ _ → _ => hend
      exact hend _ _ _ (by k_asm)
