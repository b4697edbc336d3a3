import PyProof.Rows.All
import Wide.All
import OpenK.AllK
import Wide.FinOn
import Lean
import PySem.Challenge.RW_kn0088_06
open PySem PySem.W PyProof.Rows
set_option Elab.async false
set_option maxRecDepth 100000
namespace Mine
open PySem.Builtin

-- map's facts
theorem slot_map_next : Slot "map" "__next__" "map.__next__" :=
  .of (owner := "map") (n := "__next__") (by rw [typeLookup_type, builtinLookup_eq_fast]; kernel_rfl) (by decide +kernel) (by decide +kernel) (by decide +kernel)
    (by first | exact .inl (by decide +kernel) | exact .inr (by decide +kernel)) (by rw [isSubtype_type]; kernel_rfl)
theorem slot_map_iter : Slot "map" "__iter__" "map.__iter__" :=
  .of (owner := "map") (n := "__iter__") (by rw [typeLookup_type, builtinLookup_eq_fast]; kernel_rfl) (by decide +kernel) (by decide +kernel) (by decide +kernel)
    (by first | exact .inl (by decide +kernel) | exact .inr (by decide +kernel)) (by rw [isSubtype_type]; kernel_rfl)
theorem slot_map_init : Slot "map" "__init__" "object.__init__" :=
  .of (owner := "object") (n := "__init__") (by rw [typeLookup_type, builtinLookup_eq_fast]; kernel_rfl) (by decide +kernel) (by decide +kernel) (by decide +kernel)
    (by first | exact .inl (by decide +kernel) | exact .inr (by decide +kernel)) (by rw [isSubtype_type]; kernel_rfl)
theorem entry_map_next : entryFor table "map.__next__" = some Builtin.«map.__next__» := entryFor_of_tree (by kernel_rfl)
theorem entry_map_new : entryFor table "map.__new__" = some Builtin.«map.__new__» := entryFor_of_tree (by kernel_rfl)
theorem args_map_next_1 (a : Value) : argsOk "map.__next__" ⟨[a], []⟩ := by unfold argsOk; kernel_rfl
theorem args_map_iter_1 (a : Value) : argsOk "map.__iter__" ⟨[a], []⟩ := by unfold argsOk; kernel_rfl
theorem mro_map : mroOf (.type "map") = pure [.type "map", .type "object"] := by rw [mroOf_type]; kernel_rfl
theorem lookup_map_new : typeLookup (.type "map") "__new__" = pure (some (.builtin "map.__new__")) := by rw [typeLookup_type, builtinLookup_eq_fast]; kernel_rfl
theorem sub_map : isSubtype (.type "map") (.type "map") = pure true := by rw [isSubtype_type]; kernel_rfl
theorem called_map : TypeCalled "map" "map.__new__" "object.__init__" :=
  ⟨by decide +kernel, by decide +kernel, ⟨_, _, mro_map⟩, madeBy_type mro_map lookup_map_new (by decide +kernel), by decide +kernel, by rw [isSubtype_type]; kernel_rfl, slot_map_init⟩
theorem typeCall_map_2 (a b : Value) : checkTypeCall "map" ⟨[a, b], []⟩ = pure () := by kernel_rfl
theorem newCall_map_2 (a b : Value) : checkBuiltinCall "map.__new__" ⟨[.type "map", a, b], []⟩ = pure () := by kernel_rfl
theorem map_no_len : typeLookup (.type "map") "__len__" = pure none := by rw [typeLookup_type, builtinLookup_eq_fast]; kernel_rfl
theorem map_no_hint : typeLookup (.type "map") "__length_hint__" = pure none := by rw [typeLookup_type, builtinLookup_eq_fast]; kernel_rfl
theorem entry_map_iter : entryFor table "map.__iter__" = some Builtin.«dict_keyiterator.__iter__» :=
  entryFor_alias (id' := "dict_keyiterator.__iter__") (by kernel_rfl) (by first | rfl | decide +kernel | (unfold String.splitOn; simp +decide [String.splitOnAux])) (by decide +kernel) (by kernel_rfl)
end Mine
namespace Mine
open PySem.Builtin

abbrev IsMap (h : Heap) (e tup : Addr) (f : Value) : Prop :=
  h.get? e = some { cls := .type "map", dict := none, data := .fields #[.ref tup, f], slots := #[] }

section
variable {prog : Program} {w : World} {A : Around} {E : Value → Shared → Prop} {s : Shared}

theorem pyIter_map {e tup : Addr} {f : Value} {Q : Value → Shared → Prop} (he : IsMap s.heap e tup f) (h : Q (.ref e) s) : wpAny (model prog w) A (pyIter (.ref e)) Q E s := by
  have hT : s.TypeIs (.ref e) "map" := ⟨_, he, rfl⟩
  refine wpAny_pyIter_slot hT slot_map_iter (wpAny_call_entry slot_map_iter hT entry_map_iter ?_ (args_map_iter_1 _))
  show wpAny _ _ (ret (.ref e)) _ _ s
  exact wpAny_pure ⟨_, rfl, "map", _, hT, slot_map_next.lookup, h⟩

theorem map_next_item {e tup it l : Addr} {f : Value} {i : Nat} {items : Array Value} {x : Value} {nt : Nat} {Q : Value → Shared → Prop}
    (he : IsMap s.heap e tup f) (ht : s.heap.get? tup = some { cls := .type "tuple", data := .seq #[.ref it] nt }) (hit : s.heap.IsListIter it l i) (hl : s.heap.IsList l items) (hx : items[i]? = some x) (hne : e ≠ it)
    (hf : ∀ h', h'.IsListIter it l (i + 1) → Heap.SameBut it s.heap h' → wpAny (model prog w) A (call f [x]) Q E { s with heap := h' }) :
    wpAny (model prog w) A (Builtin.«map.__next__» ⟨[.ref e], []⟩) (fun fin s' => ∃ v, fin = .done (.ret v) ∧ Q v s') E s := by
  show wpAny _ _ (field (.ref e) 0 >>= _) _ _ _
  refine wpAny_bind (wpAny_field he rfl (x := .ref tup) rfl ?_)
  show wpAny _ _ (seqItems? (.ref tup) >>= _) _ _ _
  refine wpAny_bind (wpAny_seqItems ht rfl ?_)
  dsimp only
  refine wpAny_bind (m := forIn _ _ _) ?_
  simp only [List.forIn_toArray, List.forIn_cons, List.forIn_nil]
  refine wpAny_bind (wpAny_bind (wpAny_holding (wpAny_nextOf_list_item hit hl hx fun h₁ hit₁ hs₁ => ?_)))
  refine wpAny_pure ?_
  dsimp only
  refine wpAny_pure ?_
  have he₁ : IsMap h₁ e tup f := (hs₁.2 e hne).trans he
  refine wpAny_bind (wpAny_field he₁ rfl (x := f) rfl ?_)
  refine wpAny_bind (wpAny_holding (wpAny_mono (hf h₁ hit₁ hs₁) (fun v s' hq => ?_) fun _ _ x => x))
  refine wpAny_bind (wpAny_letGo ?_)
  exact wpAny_pure ⟨v, rfl, hq⟩

theorem pyNext_map_end {e tup it l : Addr} {f : Value} {i : Nat} {items : Array Value} {nt : Nat} {Q : Option Value → Shared → Prop} (hh : A.handled = none)
    (he : IsMap s.heap e tup f) (ht : s.heap.get? tup = some { cls := .type "tuple", data := .seq #[.ref it] nt }) (hit : s.heap.IsListIter it l i) (hl : s.heap.IsList l items) (hx : items[i]? = none)
    (hQ : ∀ h', Heap.ExtBut it s.heap h' → Q none { s with heap := h' }) : wpAny (model prog w) A (pyNext (.ref e)) Q E s := by
  have hT : s.TypeIs (.ref e) "map" := ⟨_, he, rfl⟩
  unfold pyNext
  refine wpAny_bind (wpAny_attempt (wpAny_callSpecial?_slot (name := Str.ofString "__next__") hT slot_map_next
    (wpAny_call_entry slot_map_next hT entry_map_next ?_ (args_map_next_1 _))))
  show wpAny _ _ (field (.ref e) 0 >>= _) _ _ _
  refine wpAny_bind (wpAny_field he rfl (x := .ref tup) rfl ?_)
  show wpAny _ _ (seqItems? (.ref tup) >>= _) _ _ _
  refine wpAny_bind (wpAny_seqItems ht rfl ?_)
  dsimp only
  refine wpAny_bind (m := forIn _ _ _) ?_
  simp only [List.forIn_toArray, List.forIn_cons, List.forIn_nil]
  refine wpAny_bind (wpAny_bind (wpAny_holding (wpAny_nextOf_list_end hh hit hl hx fun h' x he' hx' => ?_)))
  obtain ⟨o, ho, hc⟩ := hx'
  refine wpAny_bind (wpAny_isInstance (T := "StopIteration") (b := true) ⟨o, ho, hc⟩ isSubtype_stop ?_)
  exact wpAny_pure (hQ _ he')

theorem Walks_map1 (hh : A.handled = none) {base : Heap} (e tup it l : Addr) (f : Value) (items : Array Value) (nt : Nat) (P : Nat → Value → Prop)
    (h1 : e ≠ it) (h2 : tup ≠ it) (h3 : l ≠ it) (hb : base.objs.size ≤ it)
    (hf : ∀ i x (s : Shared) (Q : Value → Shared → Prop) (E : Value → Shared → Prop), items[i]? = some x → base.StaysIn s.heap → (∀ v h' tk, P i v → s.heap.StaysIn h' → Q v { s with heap := h', toks := tk }) → wpAny (model prog w) A.in1 (call f [x]) Q E s) :
    Walks prog w A e ([e, tup, it, l] ++ List.range base.objs.size) [it] items.size P
      (fun i h => base.StaysIn h ∧ IsMap h e tup f ∧ h.get? tup = some { cls := .type "tuple", data := .seq #[.ref it] nt } ∧ h.IsListIter it l i ∧ h.IsList l items) where
  sub := fun b hb => by simp at hb; simp [hb]
  frame := fun i h h' ⟨st, a, b, c, d⟩ hk => ⟨fun b o e => hk b (by have := Heap.lt_size e; simp; right; right; right; right; exact this) o (st b o e), hk e (by simp) _ a, hk tup (by simp) _ b, c.at fun o e => hk it (by simp) o e, d.at fun o e => hk l (by simp) o e⟩
  item := fun i s Q E hi ⟨st, he, ht, hit, hl⟩ hQ => by
    have hT : s.TypeIs (.ref e) "map" := ⟨_, he, rfl⟩
    unfold pyNext
    refine wpAny_bind (wpAny_attempt (wpAny_callSpecial?_slot (name := Str.ofString "__next__") hT slot_map_next
      (wpAny_call_entry slot_map_next hT entry_map_next
        (map_next_item he ht hit hl (x := items[i]) (by simp [hi]) h1 fun h' hit' hs' => ?_) (args_map_next_1 _))))
    have ext : ∀ b o, b ≠ it → s.heap.get? b = some o → h'.get? b = some o := fun b o hb e => hs'.extBut b o hb e
    have st' : base.StaysIn h' := fun b o e => ext b o (fun h => absurd (Heap.lt_size e) (by rw [h]; exact Nat.not_lt.mpr hb)) (st b o e)
    refine hf i items[i] _ _ _ (by simp [hi]) st' fun v h'' tk hP hs'' => wpAny_pure ?_
    refine hQ v h'' tk hP ⟨fun b o e => hs'' _ _ (st' b o e), hs'' _ _ (ext e _ h1 he), hs'' _ _ (ext tup _ h2 ht), hit'.at fun o e => hs'' _ _ e, (hl.at fun o e => ext l _ h3 e).at fun o e => hs'' _ _ e⟩ fun b o hb e => hs'' _ _ (ext b o (fun h => hb (by simp [h])) e)
  done := fun s Q E ⟨st, he, ht, hit, hl⟩ hQ => pyNext_map_end hh he ht hit hl (by simp) fun h' he' => hQ h' s.toks fun b o hb e => he' b o (fun h => hb (by simp [h])) e
  self := fun _ _ _ _ ⟨_, he, _⟩ hQ => pyIter_map he hQ

theorem args_object_init_3 (a b c : Value) : argsOk "object.__init__" ⟨[a, b, c], []⟩ := by unfold argsOk; kernel_rfl
theorem meets_map_new (f : Value) (l : Addr) (items : Array Value) :
    Meets (Builtin.«map.__new__» ⟨[.type "map", f, .ref l], []⟩) (fun _ R s => s.heap.IsList l items ∧
      R (.ok (.ret (.ref (s.heap.objs.size + 2))))
        { s with heap := ((s.heap.push { cls := .type "list_iterator", data := .fields #[.ref l, .int 0 0] }).push { cls := .type "tuple", data := .seq #[.ref s.heap.objs.size] }).push { cls := .type "map", data := .fields #[.ref (s.heap.objs.size + 1), f] } }) :=
  .of_wp fun prog w A R s h => by
    obtain ⟨hp, g, d, tk, os⟩ := s; obtain ⟨hl, h⟩ := h
    have hsub := sub_map
    wp_walk using wpAny_pyIter_list hl
    exact ⟨_, rfl, by simpa [Heap.size_push] using h⟩

section
variable {prog : Program} {w : World} {A : Around} {E : Value → Shared → Prop} {s : Shared}
theorem call_map_list {f : Value} {l : Addr} {items : Array Value} {Q : Value → Shared → Prop} (hL : s.heap.IsList l items)
    (h : ∀ h', IsMap h' (s.heap.objs.size + 2) (s.heap.objs.size + 1) f → h'.get? (s.heap.objs.size + 1) = some { cls := .type "tuple", data := .seq #[.ref s.heap.objs.size] } → h'.IsListIter s.heap.objs.size l 0 →
      h'.objs.size = s.heap.objs.size + 3 → (∀ b o, s.heap.get? b = some o → h'.get? b = some o) → Q (.ref (s.heap.objs.size + 2)) { s with heap := h' }) :
    wpAny (model prog w) A (call (.type "map") [f, .ref l]) Q E s := by
  refine callType_new called_map (by decide) (typeCall_map_2 _ _) (newCall_map_2 _ _) (fun obj => args_object_init_3 obj _ _) entry_map_new
    (meets_map_new f l items) ⟨hL, ?_⟩
  have z1 : (s.heap.push { cls := .type "list_iterator", data := .fields #[.ref l, .int 0 0] }).objs.size = s.heap.objs.size + 1 := Heap.size_push ..
  have z2 : ((s.heap.push { cls := .type "list_iterator", data := .fields #[.ref l, .int 0 0] }).push { cls := .type "tuple", data := .seq #[.ref s.heap.objs.size] }).objs.size = s.heap.objs.size + 2 := by rw [Heap.size_push, z1]
  have he : IsMap (((s.heap.push { cls := .type "list_iterator", data := .fields #[.ref l, .int 0 0] }).push { cls := .type "tuple", data := .seq #[.ref s.heap.objs.size] }).push { cls := .type "map", data := .fields #[.ref (s.heap.objs.size + 1), f] }) (s.heap.objs.size + 2) (s.heap.objs.size + 1) f := by
    have := Heap.get?_push_size ((s.heap.push { cls := .type "list_iterator", data := .fields #[.ref l, .int 0 0] }).push { cls := .type "tuple", data := .seq #[.ref s.heap.objs.size] })
      (o := { cls := .type "map", data := .fields #[.ref (s.heap.objs.size + 1), f] }) rfl
    rw [z2] at this; exact this
  have ht : (((s.heap.push { cls := .type "list_iterator", data := .fields #[.ref l, .int 0 0] }).push { cls := .type "tuple", data := .seq #[.ref s.heap.objs.size] }).push { cls := .type "map", data := .fields #[.ref (s.heap.objs.size + 1), f] }).get? (s.heap.objs.size + 1) = some { cls := .type "tuple", data := .seq #[.ref s.heap.objs.size] } := by
    have := Heap.get?_push_size (s.heap.push { cls := .type "list_iterator", data := .fields #[.ref l, .int 0 0] })
      (o := { cls := .type "tuple", data := .seq #[.ref s.heap.objs.size] }) rfl
    rw [z1] at this; exact Heap.get?_push_of_some _ this
  refine ⟨⟨_, he, rfl⟩, h _ he ht ⟨_, Heap.get?_push_of_some _ (Heap.get?_push_of_some _ (Heap.get?_push_size _ rfl)), rfl, rfl⟩ (by rw [Heap.size_push, z2]) fun b o x => Heap.get?_push_of_some _ (Heap.get?_push_of_some _ (Heap.get?_push_of_some _ x))⟩

/-- list(x), x an iterator of a type that has neither a length nor a hint -/
theorem extend_iter {T : String} {R : Result → Shared → Prop} {I : Addr} {fp wr : List Addr} {G : Array GenState → Array GenState → Prop} {n : Nat} {P : Nat → Value → Prop} {St : Nat → Shared → Prop}
    (hlen : typeLookup (.type T) "__len__" = pure none) (hhint : typeLookup (.type T) "__length_hint__" = pure none) (h2 : (Value.type T == Value.type "list") = false) (h3 : (Value.type T == Value.type "tuple") = false)
    (W : WalksS prog w A.in1 I fp wr G n P St) (hT : ∀ i s, St i s → s.TypeIs (.ref I) T) (S : Addr) (res : Value) (c₀ : Nat) (hst : St 0 s) (hSf : S ∉ fp) (hI : I ∈ fp)
    (hS : s.heap.get? S = some { cls := .type "list", data := .seq #[] c₀ })
    (hR : ∀ s' acc' c', Moved (S :: wr) G s s' → s'.heap.get? S = some { cls := .type "list", dict := none, data := .seq acc' c', slots := #[] } → ItemsOf P acc' n → R (.ok (.ret res)) s') (hn : n ≤ sizeLine) :
    wpAny (model prog w) A.in1 (Builtin.List.listExtendWith (.ref S) (.ref I) res)
      (fun fin s' => match fin with | .done f => R (.ok f) s' | .again c' => c'.quiet = true ∧ codeAny (model prog w) A c' R s') (fun e s' => R (.error e) s') s := by
  have hSI : S ≠ I := fun e => hSf (e ▸ hI)
  unfold Builtin.List.listExtendWith
  refine wpAny_bind (wpAny_typeOf (hT 0 _ hst) ?_)
  have h1 : Builtin.List.listSameRef (.ref S) (.ref I) = false := by simp [Builtin.List.listSameRef, hSI]
  simp only [h1, h2, h3, Bool.or_false, Bool.false_eq_true, if_false]
  refine wpAny_bind (W.self 0 _ _ _ hst ?_)
  refine wpAny_bind (wpAny_holding ?_)
  unfold Builtin.List.listLengthHint
  refine wpAny_bind (wpAny_specialOf (hT 0 _ hst) hlen ?_)
  show wpAny _ A.in1 (specialOf (Value.ref I) (Str.ofString "__length_hint__") >>= _) _ _ _
  refine wpAny_bind (wpAny_specialOf (hT 0 _ hst) hhint ?_)
  refine wpAny_pure ?_
  show wpAny _ A.in1 (rule "list.extend.makes-room" >>= fun _ => Builtin.List.listTouch (.ref S) >>= fun _ =>
    again (.builtin "list.extend.loop" ⟨[.ref S, .ref I, res], []⟩)) _ _ _
  refine wpAny_bind (wpAny_rule ?_)
  refine wpAny_bind ?_
  show wpAny _ A.in1 (updateSeq S (·.push .none) >>= fun _ => updateSeq S (·.pop)) _ _ _
  refine wpAny_bind (wpAny_updateSeq hS rfl ?_)
  have hS₂ := Heap.get?_update_self (Obj.mapSeq (·.push Value.none)) hS rfl
  refine wpAny_updateSeq (hz := by seq_fits) hS₂ rfl ?_
  have hS₃ := Heap.get?_update_self (Obj.mapSeq (·.pop)) hS₂ rfl
  have oth : ∀ b o, b ≠ S → s.heap.get? b = some o → ((s.heap.update S (Obj.mapSeq (·.push Value.none))).update S (Obj.mapSeq (·.pop))).get? b = some o :=
    fun b o hb e => (Heap.get?_update_other _ _ (Ne.symm hb)).trans ((Heap.get?_update_other _ _ (Ne.symm hb)).trans e)
  refine wpAny_pure ⟨plainId_quiet F.plain_extend_loop _, codeAny_extend_loopS W hn _ hSf _ n 0 _ _ _ rfl (Nat.zero_le _)
    (W.frame 0 s _ s.toks hst (Nat.le_refl _) fun b hb o e => oth b o (fun h => hSf (h ▸ hb)) e) hS₃ (ItemsOf.nil P) fun s' acc' c' hm hS' hacc => ?_⟩
  exact hR s' acc' c' (Moved.trans W.gtrans ((Moved.refl W.grefl).then_heap (Nat.le_refl _) fun b o hb e => oth b o (fun h => hb (h ▸ List.mem_cons_self)) e) hm) hS' hacc

theorem list_init_iter {T : String} {R : Result → Shared → Prop} {I : Addr} {fp wr : List Addr} {G : Array GenState → Array GenState → Prop} {n : Nat} {P : Nat → Value → Prop} {St : Nat → Shared → Prop}
    (hlen : typeLookup (.type T) "__len__" = pure none) (hhint : typeLookup (.type T) "__length_hint__" = pure none) (h2 : (Value.type T == Value.type "list") = false) (h3 : (Value.type T == Value.type "tuple") = false)
    (W : WalksS prog w A.in1 I fp wr G n P St) (hT : ∀ i s, St i s → s.TypeIs (.ref I) T) (S : Addr) (hst : St 0 s) (hSf : S ∉ fp) (hI : I ∈ fp)
    (hS : s.heap.get? S = some { cls := .type "list", data := .seq #[] })
    (hR : ∀ s' acc' c', Moved (S :: wr) G s s' → s'.heap.get? S = some { cls := .type "list", dict := none, data := .seq acc' c', slots := #[] } → ItemsOf P acc' n → R (.ok (.ret .none)) s') (hn : n ≤ sizeLine) :
    wpAny (model prog w) A.in1 (Builtin.«list.__init__» ⟨[.ref S, .ref I], []⟩)
      (fun fin s' => match fin with | .done f => R (.ok f) s' | .again c' => c'.quiet = true ∧ codeAny (model prog w) A c' R s') (fun e s' => R (.error e) s') s := by
  show wpAny _ A.in1 (do let old ← Builtin.List.listItems (.ref S); Builtin.List.listUpdate (.ref S) (fun _ => #[]); letGo old.toList.reverse; Builtin.List.listExtendWith (.ref S) (.ref I) .none) _ _ s
  refine wpAny_bind ?_
  unfold Builtin.List.listItems
  refine wpAny_bind (wpAny_seqItems hS rfl (wpAny_pure ?_))
  show wpAny _ A.in1 (updateSeq S (fun _ => #[]) >>= fun _ => letGo (#[] : Array Value).toList.reverse >>= fun _ => Builtin.List.listExtendWith (.ref S) (.ref I) .none) _ _ s
  refine wpAny_bind (wpAny_updateSeq hS rfl ?_)
  have hS₂ := Heap.get?_update_self (Obj.mapSeq (fun _ => (#[] : Array Value))) hS rfl
  have oth : ∀ b o, b ≠ S → s.heap.get? b = some o → (s.heap.update S (Obj.mapSeq (fun _ => (#[] : Array Value)))).get? b = some o :=
    fun b o hb e => (Heap.get?_update_other _ _ (Ne.symm hb)).trans e
  refine wpAny_bind (wpAny_letGo ?_)
  refine extend_iter (hn := hn) hlen hhint h2 h3 W hT S .none _ (W.frame 0 s _ s.toks hst (Nat.le_refl _) fun b hb o e => oth b o (fun h => hSf (h ▸ hb)) e) hSf hI hS₂ fun s' acc' c' hm hS' hacc => ?_
  exact hR s' acc' c' (Moved.trans W.gtrans ((Moved.refl W.grefl).then_heap (Nat.le_refl _) fun b o hb e => oth b o (fun h => hb (h ▸ List.mem_cons_self)) e) hm) hS' hacc

theorem call_list_iter {T : String} {I : Addr} {fp wr : List Addr} {n : Nat} {P : Nat → Value → Prop} {St : Nat → Heap → Prop} {Q : Value → Shared → Prop}
    (hlen : typeLookup (.type T) "__len__" = pure none) (hhint : typeLookup (.type T) "__length_hint__" = pure none) (h2 : (Value.type T == Value.type "list") = false) (h3 : (Value.type T == Value.type "tuple") = false)
    (W : Walks prog w A.in1.in1 I fp wr n P St) (hT : ∀ i h, St i h → ∃ o, h.get? I = some o ∧ o.cls = .type T) (hst : St 0 s.heap) (hfp : ∀ b ∈ fp, b < s.heap.objs.size) (hI : I ∈ fp)
    (hQ : ∀ h' tk acc' c', (∀ b o, b ∉ wr → s.heap.get? b = some o → h'.get? b = some o) → h'.get? s.heap.objs.size = some { cls := .type "list", dict := none, data := .seq acc' c', slots := #[] } → ItemsOf P acc' n →
      Q (.ref s.heap.objs.size) { s with heap := h', toks := tk }) (hn : n ≤ sizeLine) :
    wpAny (model prog w) A (call (.type "list") [.ref I]) Q E s := by
  have hSf : s.heap.objs.size ∉ fp := fun hm => Nat.lt_irrefl _ (hfp _ hm)
  refine callType_codes (Q₁ := fun obj s₁ => obj = .ref s.heap.objs.size ∧ s₁ = { s with heap := s.heap.push { cls := .type "list", data := .seq #[] } }) F.called_list (F.typeCall_list_1 _) F.entry_list_init
    (code_list_new _ ⟨rfl, rfl⟩) fun obj s₁ h₁ => ?_
  obtain ⟨rfl, rfl⟩ := h₁
  have hS : (s.heap.push { cls := .type "list", data := .seq #[] }).get? s.heap.objs.size = some { cls := .type "list", data := .seq #[] } := Heap.get?_push_size _ rfl
  refine ⟨⟨_, hS, rfl⟩, F.args_list_init_2 _ _, list_init_iter (hn := hn) hlen hhint h2 h3 W.toS (fun i s st => hT i _ st) _ (W.frame 0 s.heap _ hst fun b _ o e => Heap.get?_push_of_some _ e) hSf hI hS fun s' acc' c' hm hS' hacc => ?_⟩
  refine ⟨rfl, ?_⟩
  rw [Moved.eq_with hm]
  refine hQ s'.heap s'.toks acc' c' (fun b o hb e => hm.heap b o (fun h => ?_) (Heap.get?_push_of_some _ e)) hS' hacc
  rcases List.mem_cons.mp h with h | h
  · exact absurd (Heap.lt_size e) (h ▸ Nat.lt_irrefl _)
  · exact hb h
end
end
end Mine
namespace Mine
open PySem.Builtin

def special (c : Nat) : Bool := [40, 41, 91, 93, 123, 125, 63, 42, 43, 45, 124, 94, 36, 92, 46, 38, 126, 35, 32, 9, 10, 13, 11, 12].contains c
def esc1 (c : Nat) : List Nat := if special c then [92, c] else [c]
def esc (x : Str) : Str := ⟨(x.cps.toList.flatMap esc1).toArray⟩

/-- the table of the special signs lies at d -/
def TransTab (prog : Program) (w : World) (h : Heap) (d : Addr) : Prop :=
  (d == sysModules) = false ∧ ∃ kvs : List (Int × Value), h.DictOf (intKind prog w) d kvs ∧ (∀ c : Nat, special c = true → ∃ t, valueAt kvs (c : Int) = some (.str ⟨#[92, c]⟩ t)) ∧ ∀ c : Nat, special c = false → valueAt kvs (c : Int) = none

theorem TransTab.keep {prog : Program} {w : World} {h h' : Heap} {d : Addr} (T : TransTab prog w h d) (k : h.StaysIn h') : TransTab prog w h' d :=
  let ⟨lo, kvs, hd, r⟩ := T; ⟨lo, kvs, hd.keep k, r⟩

section
variable {prog : Program} {w : World} {A : Around} {E : Value → Shared → Prop} {s : Shared}
theorem tableLookup_yes {d : Addr} {c : Nat} {Q : Str.Mapped → Shared → Prop} (T : TransTab prog w s.heap d) (hc : special c = true)
    (h : ∀ tk, Q (.text ⟨#[92, c]⟩) { s with toks := tk }) : wpAny (model prog w) A (Str.tableLookup (.ref d) c) Q E s := by
  obtain ⟨lo, kvs, hd, hy, hn⟩ := T
  obtain ⟨t, hv⟩ := hy c hc
  unfold Str.tableLookup
  refine wpAny_bind (wpAny_attempt ?_)
  refine wpAny_bind (wpAny_mkInt ?_)
  refine wpAny_getItem_of (intKind_is prog w _ _) hd.mapOf hv ?_
  dsimp only
  refine wpAny_bind (m := asInt? _) (wpAny_pure ?_)
  dsimp only
  refine wpAny_bind (m := asStr? _) (wpAny_pure ?_)
  exact wpAny_pure (h _)

theorem tableLookup_no {d : Addr} {c : Nat} {Q : Str.Mapped → Shared → Prop} (hh : A.handled = none) (T : TransTab prog w s.heap d) (hc : special c = false)
    (h : ∀ h' tk, s.heap.StaysIn h' → Q .keep { s with heap := h', toks := tk }) : wpAny (model prog w) A (Str.tableLookup (.ref d) c) Q E s := by
  obtain ⟨lo, kvs, hd, hy, hn⟩ := T
  unfold Str.tableLookup
  refine wpAny_bind (wpAny_attempt ?_)
  refine wpAny_bind (wpAny_mkInt ?_)
  refine wpAny_getItem_missing_of (intKind_is prog w _ _) lo hh hd.mapOf (hn c hc) fun h' e hx => ?_
  dsimp only
  obtain ⟨ob, t, ho, hcl, _⟩ := hx.there
  refine wpAny_bind (wpAny_isInstance (T := "KeyError") (b := true) ⟨ob, ho, hcl⟩ (by rw [isSubtype_type]; kernel_rfl) ?_)
  refine wpAny_bind (wpAny_rule (wpAny_pure ?_))
  exact h h' _ hx.keeps

def ptxt (ps : List Str) : List Nat := ps.reverse.flatMap (·.cps.toList)
theorem ptxt_cons (p : Str) (ps : List Str) : ptxt (p :: ps) = ptxt ps ++ p.cps.toList := by simp [ptxt]
theorem ptxt_fold (ps : List Str) : ps.reverse.foldl (fun acc p => acc ++ p.cps) #[] = (ptxt ps).toArray := by
  have : ∀ (l : List Str) (a : Array Nat), l.foldl (fun acc p => acc ++ p.cps) a = a ++ (l.flatMap (·.cps.toList)).toArray := by
    intro l
    induction l with
    | nil => intro a; simp
    | cons q l ih => intro a; rw [List.foldl_cons, ih, List.flatMap_cons]; apply Array.ext'; simp [List.append_assoc]
  rw [this]; simp [ptxt]
theorem esc_len_le : ∀ l : List Nat, (l.flatMap esc1).length ≤ 2 * l.length
  | [] => by simp
  | c :: l => by
    have := esc_len_le l
    rw [List.flatMap_cons, List.length_append, List.length_cons]
    have h2 : (esc1 c).length ≤ 2 := by unfold esc1; split <;> simp
    omega
theorem mem_of_lookup' {c : Nat} {a : Option Nat} : ∀ {l : List (Nat × Option Nat)}, l.lookup c = some a → (c, a) ∈ l
  | [], h => by cases h
  | (k, v) :: l, h => by
    rw [List.lookup_cons] at h
    by_cases e : (c == k) = true
    · rw [e] at h; cases h; rw [eq_of_beq e]; exact .head _
    · rw [Bool.not_eq_true] at e; rw [e] at h; exact .tail _ (mem_of_lookup' h)

theorem call_translate {d : Addr} {x : Str} {t : Tok} {Q : Value → Shared → Prop} (hh : A.handled = none) (T : TransTab prog w s.heap d) (hx : x.length ≤ 1000000)
    (h : ∀ h' tk tk', s.heap.StaysIn h' → Q (.str (esc x) tk) { s with heap := h', toks := tk' }) : wpAny (model prog w) A (call (.builtin "str.translate") [.str x t, .ref d]) Q E s := by
  refine wpAny_call_entry F.slot_str_translate (typeIs_str _ _ _) F.entry_str_translate ?_ (F.args_str_translate_2 _ _)
  unfold Builtin.«str.translate»
  obtain ⟨hp, g, dr, tk, os⟩ := s
  wp_walk
  by_cases h0 : (x.length == 0) = true
  · rw [if_pos h0]
    have e0 : esc x = x := by
      have : x.cps = #[] := by have := eq_of_beq h0; exact Array.size_eq_zero_iff.mp this
      obtain ⟨c⟩ := x
      cases this; rfl
    refine wpAny_bind (wpAny_rule ?_)
    refine wpAny_bind (wpAny_pure ?_)
    exact wpAny_pure ⟨_, rfl, e0 ▸ h hp t tk fun _ _ e => e⟩
  rw [if_neg h0]
  dsimp only
  refine wpAny_bind ?_
  refine MeetsSeq2.wpAny_forIn_array _ (fun rest b s' => ∃ pre h' tk', s' = (⟨h', g, dr, tk', os⟩ : Shared) ∧ hp.StaysIn h' ∧ x.cps.toList = pre ++ rest ∧ ptxt b.1 = pre.flatMap esc1 ∧ b.2.1 = (pre.flatMap esc1).length ∧
    (∀ p ∈ b.2.2.2.1, p.2 = some p.1 ∧ special p.1 = false) ∧ b.2.2.2.2 = false) _ ?turn ?fin _ _ ⟨[], hp, tk, rfl, fun _ _ e => e, rfl, rfl, rfl, by simp, rfl⟩
  case fin =>
    rintro ⟨ps, total, fast, known, ad⟩ s' ⟨pre, h', tk', rfl, st, hpre, hps, htot, hk, had⟩
    dsimp only at hps htot hk had ⊢
    rw [List.append_nil] at hpre
    have hl : (pre.flatMap esc1).length ≤ 2 * x.length := by rw [← hpre]; exact esc_len_le _
    rw [if_neg (by simp only [Str.tooLong, decide_eq_true_eq, sizeLine_eq]; omega), ptxt_fold, hps]
    unfold retStr
    refine wpAny_bind (wpAny_mkStr ?_ (by simp only [PySem.Str.length, List.size_toArray, sizeLine_eq]; omega))
    refine wpAny_pure ⟨_, rfl, ?_⟩
    have : (⟨(pre.flatMap esc1).toArray⟩ : Str) = esc x := by rw [esc, hpre]
    rw [this]
    exact h h' _ _ st
  case turn =>
    rintro c rest ⟨ps, total, fast, known, ad⟩ s' ⟨pre, h', tk', rfl, st, hpre, hps, htot, hk, had⟩
    dsimp only at hps htot hk had ⊢
    subst had
    have hl : (pre.flatMap esc1).length ≤ 2 * x.length := by
      have h1 := esc_len_le pre
      have h2 : pre.length ≤ x.length := by show _ ≤ x.cps.size; rw [← Array.length_toList, hpre]; simp
      omega
    rw [if_neg (by simp only [Str.tooLong, decide_eq_true_eq, sizeLine_eq]; omega)]
    have slow : ∀ (R : ForInStep (List Str × Nat × Bool × List (Nat × Option Nat) × Bool) → Shared → Prop) (h₁ : Heap) (tk₁ : Nat) (fast' : Bool), hp.StaysIn h₁ →
      (∀ b s', (∃ pre h' tk', s' = (⟨h', g, dr, tk', os⟩ : Shared) ∧ hp.StaysIn h' ∧ x.cps.toList = pre ++ rest ∧ ptxt b.1 = pre.flatMap esc1 ∧ b.2.1 = (pre.flatMap esc1).length ∧
            (∀ p ∈ b.2.2.2.1, p.2 = some p.1 ∧ special p.1 = false) ∧ b.2.2.2.2 = false) → R (.yield b) s') → wpAny (model prog w) A.in1 (do
        let __do_lift ← Str.tableLookup (Value.ref d) c
        match __do_lift with
          | Str.Mapped.keep => pure (ForInStep.yield ((⟨#[c]⟩ : Str) :: ps, total + 1, fast', known, false))
          | Str.Mapped.drop => pure (ForInStep.yield (ps, total, fast', known, true))
          | Str.Mapped.char d => pure (ForInStep.yield ((⟨#[d]⟩ : Str) :: ps, total + 1, fast', known, false))
          | Str.Mapped.text t => pure (ForInStep.yield (t :: ps, total + t.length, fast', known, false)))
        R E ⟨h₁, g, dr, tk₁, os⟩ := by
      intro R h₁ tk₁ fast' st₁ hR
      cases hc : special c with
      | true =>
        refine wpAny_bind (tableLookup_yes (T.keep st₁) hc fun tk => wpAny_pure ?_)
        refine hR _ _ ⟨pre ++ [c], _, _, rfl, st₁, by rw [hpre]; simp, ?_, ?_, hk, rfl⟩
        · rw [ptxt_cons, hps]; simp [esc1, hc]
        · simp [esc1, hc, htot, PySem.Str.length]
      | false =>
        refine wpAny_bind (tableLookup_no hh (T.keep st₁) hc fun h₂ tk st₂ => wpAny_pure ?_)
        refine hR _ _ ⟨pre ++ [c], _, _, rfl, fun b o e => st₂ b o (st₁ b o e), by rw [hpre]; simp, ?_, ?_, hk, rfl⟩
        · rw [ptxt_cons, hps]; simp [esc1, hc]
        · simp [esc1, hc, htot]
    cases fast with
    | false =>
      simp only [Bool.false_eq_true, if_false]
      exact slow _ h' tk' false st fun _ _ x => x
    | true =>
      simp only [if_true, Bool.false_eq_true, if_false]
      cases hlk : List.lookup c known with
      | some a =>
        obtain ⟨ha, hc⟩ := hk _ (mem_of_lookup' hlk)
        dsimp only at ha hc ⊢
        subst ha
        refine wpAny_bind (wpAny_pure ?_)
        refine wpAny_pure ⟨pre ++ [c], _, _, rfl, st, by rw [hpre]; simp, ?_, ?_, hk, rfl⟩
        · rw [ptxt_cons, hps]; simp [esc1, hc]
        · simp [esc1, hc, htot]
      | none =>
        dsimp only
        cases hc : special c with
        | true =>
          refine wpAny_bind (tableLookup_yes (T.keep st) hc fun tk => ?_)
          dsimp only
          rw [if_neg (by simp [PySem.Str.length])]
          refine wpAny_bind (wpAny_pure ?_)
          refine wpAny_bind (wpAny_rule ?_)
          exact slow _ _ _ false st fun _ _ x => x
        | false =>
          refine wpAny_bind (tableLookup_no hh (T.keep st) hc fun h₂ tk st₂ => ?_)
          dsimp only
          refine wpAny_bind (wpAny_pure ?_)
          refine wpAny_pure ⟨pre ++ [c], _, _, rfl, fun b o e => st₂ b o (st b o e), by rw [hpre]; simp, ?_, ?_, ?_, rfl⟩
          · rw [ptxt_cons, hps]; simp [esc1, hc]
          · simp [esc1, hc, htot]
          · intro p hp'
            rcases List.mem_cons.mp hp' with rfl | hp'
            · exact ⟨rfl, hc⟩
            · exact hk p hp'
end
def entKv (e : DictEntry) : Int × Value := (match e.key with | .int k _ => k | _ => 0, e.val)
def entOk (e : DictEntry) : Bool := match e.key, e.val with
  | .int k _, .str x _ => e.hash == hashInt k && (decide (0 ≤ k) && (special k.toNat && x == ⟨#[92, k.toNat]⟩))
  | _, _ => false
def tabOk (o : Obj) : Bool := o.cls == .type "dict" && (o.dict == none && (o.slots == #[] && match o.data with
  | .dict es _ => es.toList.all entOk && (decide ((es.toList.map entKv).map (·.1)).Nodup && [40, 41, 91, 93, 123, 125, 63, 42, 43, 45, 124, 94, 36, 92, 46, 38, 126, 35, 32, 9, 10, 13, 11, 12].all fun (c : Nat) => (es.toList.map entKv).any fun kv => kv.1 == (c : Int))
  | _ => false))

theorem transTab_of {prog : Program} {w : World} {h : Heap} {d : Addr} {o : Obj} (hd : (d == sysModules) = false) (ho : h.get? d = some o) (hk : tabOk o = true) : TransTab prog w h d := by
  obtain ⟨c, dd, dt, sl⟩ := o
  simp only [tabOk, Bool.and_eq_true] at hk
  obtain ⟨h1, h2, h3, h4⟩ := hk
  cases dt with
  | dict es ep =>
    simp only [Bool.and_eq_true, decide_eq_true_eq, List.all_eq_true] at h4
    obtain ⟨h4, h5, h6⟩ := h4
    have ok : ∀ e ∈ es.toList, ∃ k t u, e.key = .int k t ∧ e.val = .str ⟨#[92, k.toNat]⟩ u ∧ e.hash = hashInt k ∧ 0 ≤ k ∧ special k.toNat = true := by
      intro e he
      have := h4 e he
      unfold entOk at this
      split at this
      · rename_i k t x u e1 e2
        simp only [Bool.and_eq_true, decide_eq_true_eq, beq_iff_eq] at this
        exact ⟨k, t, u, e1, this.2.2.2 ▸ e2, this.1, this.2.1, this.2.2.1⟩
      · cases this
    refine ⟨hd, es.toList.map entKv, ⟨_, es, ep, ho, ⟨eq_of_beq h1, eq_of_beq h2, eq_of_beq h3⟩, rfl, ?_, ?_, h5⟩, ?_, ?_⟩
    · intro e he
      obtain ⟨k, t, u, e1, e2, e3, e4, e5⟩ := ok e (by simpa using he)
      exact ⟨k, by rw [e1]; exact intKind_is prog w k t, e3⟩
    · have : ∀ l : List DictEntry, (∀ e ∈ l, e ∈ es.toList) → Pairs (intKind prog w) l (l.map entKv) := by
        intro l
        induction l with
        | nil => intro _; exact .nil
        | cons e l ih =>
          intro hl
          obtain ⟨k, t, u, e1, e2, e3, e4, e5⟩ := ok e (hl e (.head _))
          refine .cons ?_ rfl (ih fun e' he' => hl e' (.tail _ he'))
          rw [e1]; show (intKind prog w).is (entKv e).1 _ = true
          rw [show (entKv e).1 = k by simp [entKv, e1]]; exact intKind_is prog w k t
      exact this _ fun _ h => h
    · intro c hc
      have hm : c ∈ [40, 41, 91, 93, 123, 125, 63, 42, 43, 45, 124, 94, 36, 92, 46, 38, 126, 35, 32, 9, 10, 13, 11, 12] := by simpa [special] using hc
      have := h6 c hm
      rw [List.any_eq_true] at this
      obtain ⟨kv, hkv, hkc⟩ := this
      unfold valueAt
      cases hf : (es.toList.map entKv).find? (fun kv => decide (kv.1 = (c : Int))) with
      | none => exact absurd (by simpa using hkc) (by simpa using List.find?_eq_none.mp hf kv hkv)
      | some kv' =>
        have hm' := List.mem_of_find?_eq_some hf
        have hc' : kv'.1 = (c : Int) := by simpa using List.find?_some hf
        obtain ⟨e, he, rfl⟩ := List.mem_map.mp hm'
        obtain ⟨k, t, u, e1, e2, e3, e4, e5⟩ := ok e he
        have hk' : k = (c : Int) := by simpa [entKv, e1] using hc'
        subst hk'
        exact ⟨u, by simpa [entKv] using e2⟩
    · intro c hc
      unfold valueAt
      cases hf : (es.toList.map entKv).find? (fun kv => decide (kv.1 = (c : Int))) with
      | none => rfl
      | some kv' =>
        exfalso
        have hm' := List.mem_of_find?_eq_some hf
        have hc' : kv'.1 = (c : Int) := by simpa using List.find?_some hf
        obtain ⟨e, he, rfl⟩ := List.mem_map.mp hm'
        obtain ⟨k, t, u, e1, e2, e3, e4, e5⟩ := ok e he
        have hk' : k = (c : Int) := by simpa [entKv, e1] using hc'
        subst hk'
        simp [hc] at e5
  | _ => cases h4

end Mine
namespace Mine
open PySem.Builtin

/-- what a call is handed: a room, the written part, the top -/
structure Cx (K : Frag) (pv : Program) (lo : List Str) (mean : ExcName → Option Value) (mg mb : Str → Option Value) (A : Around) (h : Heap) (d : Nat) : Prop where
  hh : A.handled = none
  dep : A.depth + d < recursionLimit
  un : A.units + 8 * d < cLine
  K : K.In h
  T : Top pv lo mean mg mb h

section
variable {K : Frag} {pv : Program} {lo : List Str} {mean : ExcName → Option Value} {mg mb : Str → Option Value} {A : Around} {h h' : Heap} {d : Nat}
theorem Cx.keep (C : Cx K pv lo mean mg mb A h d) (k : ∀ b o, h.get? b = some o → h'.get? b = some o) : Cx K pv lo mean mg mb A h' d := ⟨C.hh, C.dep, C.un, C.K.keeps k, C.T.keeps k⟩
theorem Cx.le (C : Cx K pv lo mean mg mb A h d) {e : Nat} (k : e ≤ d) : Cx K pv lo mean mg mb A h e := ⟨C.hh, by have := C.dep; omega, by have := C.un; omega, C.K, C.T⟩
theorem Cx.in1 (C : Cx K pv lo mean mg mb A h (d + 1)) : Cx K pv lo mean mg mb A.in1 h d := ⟨C.hh, by have := C.dep; show A.depth + d < _; omega, by have := C.un; show A.units + 1 + 8 * d < _; omega, C.K, C.T⟩
theorem Cx.deeper (C : Cx K pv lo mean mg mb A h (d + 1)) (env : Env) : Cx K pv lo mean mg mb (A.deeper env) h d := ⟨C.hh, by have := C.dep; show A.depth + 1 + d < _; omega, by have := C.un; show A.units + 3 + 8 * d < _; omega, C.K, C.T⟩

variable {prog : Program} {w : World} {s : Shared}
theorem fn_call {f : Addr} {oc : Value} {od : Option Addr} {osl : Array (Option Value)} {name : Str} {params : Arguments} {body : List Stmt} {scope : Scope} {pm cd doc : Value} {args : List Value} {Q E : Value → Shared → Prop}
    (C : Cx K pv lo mean mg mb A s.heap (d + 1)) (ho : K.lookup f = some ⟨oc, od, .func (Calls.docDef name params body scope pm cd doc), osl⟩) (hcd : codeIn K cd name = true)
    (hbind : bindArgs (Calls.docDef name params body scope pm cd doc) ⟨args, []⟩ = pure ((params.args.map (·.arg)).zip args))
    (hloc : ∀ x ∈ (params.args.map (·.arg)).zip args, scope.names.lookup x.1 = some .local)
    (hb : ∀ L h₁ tk, Fr s.heap L h₁ (fun x => ((params.args.map (·.arg)).zip args).reverse.lookup x) → News s.heap L h₁ [] →
      wpAny (model prog w) (A.deeper (envOf name scope L f cd)) (execs body (envOf name scope L f cd))
        (fun fl s' => Q (match fl with | .ret v => v | _ => .none) s') (fun _ _ => False) { s with heap := h₁, toks := tk })
    (hco : scope.isCoroutine = false := by rfl) (hgen : scope.isGenerator = false := by rfl) (hk : scope.kind = .function := by rfl)
    (hcell : ∀ x ∈ scope.names, x.2 ≠ .cell := by decide) :
    wpAny (model prog w) A (call (.ref f) args) Q E s := by
  refine wpAny_call (call_pos_ret (by have := C.dep; omega) (C.K _ _ ho) rfl C.T.nolimit (codeRec_of C.K hcd) hbind hloc (fun h₁ F => ?_) hco hgen hk hcell)
  exact hb _ _ _ F News.nil

theorem fn_callC {f : Addr} {oc : Value} {od : Option Addr} {osl : Array (Option Value)} {name : Str} {params : Arguments} {body : List Stmt} {scope : Scope} {pm cd doc : Value} {args : List Value} {Q E : Value → Shared → Prop}
    (C : Cx K pv lo mean mg mb A s.heap (d + 1)) (ho : K.lookup f = some ⟨oc, od, .func (Calls.docDef name params body scope pm cd doc), osl⟩) (hcd : codeIn K cd name = true)
    (hbind : bindArgs (Calls.docDef name params body scope pm cd doc) ⟨args, []⟩ = pure ((params.args.map (·.arg)).zip args))
    (hkind : (((params.args.map (·.arg)).zip args).all fun y => scope.names.lookup y.1 == some .local || scope.names.lookup y.1 == some .cell) = true)
    (hnd : ((cellsFrom 0 scope.names []).map (·.1)).Nodup)
    (hb : ∀ L h₁ tk cells, L = s.heap.objs.size → Fr s.heap L h₁ (bindL (envOfC name scope L f cd).kindOf ((params.args.map (·.arg)).zip args) fun _ => none) → News s.heap L h₁ cells →
      CellsAre (bindC (envOfC name scope L f cd).kindOf ((params.args.map (·.arg)).zip args) fun _ => none) (cellsFrom (L + 1) scope.names []) cells →
      wpAny (model prog w) (A.deeper (envOfC name scope L f cd)) (execs body (envOfC name scope L f cd))
        (fun fl s' => Q (match fl with | .ret v => v | _ => .none) s') (fun _ _ => False) { s with heap := h₁, toks := tk })
    (hco : scope.isCoroutine = false := by rfl) (hgen : scope.isGenerator = false := by rfl) (hk : scope.kind = .function := by rfl) :
    wpAny (model prog w) A (call (.ref f) args) Q E s :=
  wpAny_call (call_cellsN_ret (by have := C.dep; omega) (C.K _ _ ho) rfl C.T.nolimit (codeRec_of C.K hcd) hbind (kindsX hkind _) hnd (fun h₁ tk cells F N Y => hb _ h₁ tk cells rfl F N Y) hco hgen hk)
end

section
open PyProof.V PySem.Spec
variable {prog : Program} {w : World} {A : Around} {E : Value → Shared → Prop} {s : Shared} {env : Env} {h₀ : Heap} {x : Str} {body : List Stmt} {Q : Flow → Shared → Prop}

/-- a loop over any iterator, its word by the turn's number -/
theorem iter_anyJ {I : Addr} {fp : List Addr} {n : Nat} {P : Nat → Value → Prop} {St : Nat → Heap → Prop} {m₀ : Str → Option Value} {news : List (Addr × Obj)} (J : Nat → (Str → Option Value) → List (Addr × Obj) → Prop)
    (W : Walks prog w A I fp [I] n P St) (hL : env.locals ∉ fp) (hI : h₀.get? I = none) (hnew : ∀ p ∈ news, p.1 ≠ I) (hst : St 0 s.heap) (hSt : ∀ i h, St i h → @LT.lt Nat _ I h.objs.size)
    (F : Fr h₀ env.locals s.heap m₀) (N : News h₀ env.locals s.heap news) (hj : J 0 m₀ news)
    (turn : ∀ i v m₁ news₁ h tk own, i < n → P i v → J i m₁ news₁ → (∀ p ∈ news₁, p.1 ≠ I) → (∀ p ∈ own, p.1 ∈ fp) → @LT.lt Nat _ I h.objs.size → Fr h₀ env.locals h (fun y => if y = x then some v else m₁ y) → News h₀ env.locals h (news₁ ++ own) →
      wpAny (model prog w) A (execs body env) (LoopStepV h₀ env.locals [I] own (J (i + 1)) { s with heap := h, toks := tk } (fun v s' => Q (.ret v) s') fun s' => Q .next s') E { s with heap := h, toks := tk })
    (done : ∀ m₁ news₁ h tk, J n m₁ news₁ → (∀ p ∈ news₁, p.1 ≠ I) → Fr h₀ env.locals h m₁ → News h₀ env.locals h news₁ → Q .next { s with heap := h, toks := tk }) :
    LoopAtV prog w A h₀ env x body Q E (.ref I) s := by
  refine ⟨I, fp, [I], n, P, St, m₀, news, J, rfl, W, hL, fun b hb => by rw [List.mem_singleton.mp hb]; exact hI, fun p hp hq => hnew p hp (List.mem_singleton.mp hq), hst, F, N, hj, ?_, ?_⟩
  · rintro i v m₁ news₁ s₁ own ⟨h, tk, rfl⟩ hi hP hJ hoff hown hget hback hst' F₁ N₁
    exact turn i v m₁ news₁ h tk own hi hP hJ (fun p hp e => hoff p hp (List.mem_singleton.mpr e)) hown (hSt _ _ hst') F₁ (fun p hp => N₁ p ((List.mem_append.mp hp).elim (List.mem_append_right _) (List.mem_append_left _)))
  · intro h' tk m' news' F' N' hoff hJ
    exact done m' news' h' tk hJ (fun p hp e => hoff p hp (List.mem_singleton.mpr e)) F' N'

theorem iter_rangeJ {r : Addr} {a₀ b₀ : Int} {t₀ u₀ v₀ : Tok} {n : Nat} {m₀ : Str → Option Value} {news : List (Addr × Obj)} (J : Nat → (Str → Option Value) → List (Addr × Obj) → Prop)
    (hh : A.handled = none) (hr : IsRange s.heap r a₀ b₀ 1 t₀ u₀ v₀) (hsmall : Builtin.Range.small a₀ b₀ 1 = true) (hn : Builtin.Range.rangeSize a₀ b₀ 1 = (n : Int)) (F : Fr h₀ env.locals s.heap m₀) (N : News h₀ env.locals s.heap news) (hj : J 0 m₀ news)
    (turn : ∀ i t m₁ news₁ h tk I own, i < n → J i m₁ news₁ → (∀ p ∈ news₁, p.1 ≠ I) → (∀ p ∈ own, p.1 = I) → @LT.lt Nat _ I h.objs.size → Fr h₀ env.locals h (fun y => if y = x then some (.int (a₀ + (i : Int)) t) else m₁ y) → News h₀ env.locals h (news₁ ++ own) →
      wpAny (model prog w) A (execs body env) (LoopStepV h₀ env.locals [I] own (J (i + 1)) { s with heap := h, toks := tk } (fun v s' => Q (.ret v) s') fun s' => Q .next s') E { s with heap := h, toks := tk })
    (done : ∀ m₁ news₁ h tk, J n m₁ news₁ → Fr h₀ env.locals h m₁ → News h₀ env.locals h news₁ → Q .next { s with heap := h, toks := tk }) :
    wpAny (model prog w) A (pyIter (.ref r)) (fun it s₂ => LoopAtV prog w A h₀ env x body Q E it s₂) E s := by
  refine wpAny_pyIter_range hr hsmall ?_
  have W : Walks prog w A s.heap.objs.size [s.heap.objs.size] [s.heap.objs.size] n (fun i v => i < n ∧ ∃ t, v = .int (a₀ + i * 1) t)
      (fun i h => IsRangeIter h s.heap.objs.size (a₀ + (i : Nat) * 1) ((n : Int) - (i : Nat)) 1) := (Walks.range hh _ a₀ 1 n).bound
  refine iter_anyJ J W ?_ (next_is_new F) ?_ (by show IsRangeIter _ _ _ _ _; rw [hn]; simpa using Heap.get?_push_size _ rfl) (fun i h st => Heap.lt_size st) (F.push _) (fun p hp => ⟨Heap.get?_push_of_some _ (N p hp).1, (N p hp).2⟩) hj ?_ ?_
  · intro hm
    exact absurd F.ns.lt ((List.mem_singleton.mp hm) ▸ Nat.lt_irrefl _)
  · intro p hp hI
    exact absurd (Heap.lt_size (N p hp).1) (hI ▸ Nat.lt_irrefl _)
  · rintro i v m₁ news₁ h tk own hi ⟨_, t, rfl⟩ hJ hoff hown hlt F₁ N₁
    rw [Int.mul_one] at F₁
    exact turn i t m₁ news₁ h tk _ own hi hJ hoff (fun p hp => List.mem_singleton.mp (hown p hp)) hlt F₁ N₁
  · intro m₁ news₁ h tk hJ _ F₁ N₁
    exact done m₁ news₁ h tk hJ F₁ N₁
end

theorem item_list {prog : Program} {w : World} {A : Around} {E : Value → Shared → Prop} {s : Shared} {value slice : PySem.Expr} {l : Addr} {vs : List Value} {k : Int} {u : Tok} {v : Value} {Q : Value → Shared → Prop}
    (hl : s.heap.IsList l vs.toArray) (h0 : 0 ≤ k) (hhi : k < 2 ^ 63) (hx : vs[k.toNat]? = some v) (h : Q v s)
    (hs : subscripted slice false (.ref l) (.int k u) = operate [.ref l, .int k u] (getItem (.ref l) (.int k u)) := by with_unfolding_all rfl) :
    wpAny (model prog w) A (subscriptTail value slice (.ref l) (.int k u)) Q E s :=
  tail_any hl.typeIs slot_list_getitem.lookup (wpAny_getItem_list hl h0 hhi (by simpa using hx) h) hs

section
variable {prog : Program} {w : World} {A : Around} {E : Value → Shared → Prop} {s : Shared} {h₀ : Heap} {L D : Addr} {m : Str → Option Value} {rest : List (Addr × Obj)} {vs : List Value} {n : Nat}
theorem set_list {k : Int} {t : Tok} {v : Value} {Q : Unit → Shared → Prop} (F : Fr h₀ L s.heap m) (N : News h₀ L s.heap ((D, W.listOf vs.toArray n) :: rest)) (hr : ∀ p ∈ rest, p.1 ≠ D) (h0 : 0 ≤ k) (hfit : k < 2 ^ 63) (hk : k < vs.length)
    (h : ∀ h', Fr h₀ L h' m → News h₀ L h' ((D, W.listOf (vs.set k.toNat v).toArray n) :: rest) → Q () { s with heap := h' }) : wpAny (model prog w) A (setItem (.ref D) (.int k t) v) Q E s := by
  have z := N (D, W.listOf vs.toArray n) (.head _)
  refine ki_setAt z.1 h0 hfit (by simpa using hk) (h _ (F.change (Heap.SameBut.update ..) z.2.1 z.2.2) (ki_turn (pre := []) (post := rest) (n' := n) _ N (fun _ h => nomatch h) hr ?_ ?_))
  · simp
  · simp
theorem set_list_neg {k : Int} {t : Tok} {v : Value} {Q : Unit → Shared → Prop} (F : Fr h₀ L s.heap m) (N : News h₀ L s.heap ((D, W.listOf vs.toArray n) :: rest)) (hr : ∀ p ∈ rest, p.1 ≠ D) (h0 : k < 0) (hfit : -(2 ^ 63) ≤ k) (hk : -(vs.length : Int) ≤ k)
    (h : ∀ h', Fr h₀ L h' m → News h₀ L h' ((D, W.listOf (vs.set (k + vs.length).toNat v).toArray n) :: rest) → Q () { s with heap := h' }) : wpAny (model prog w) A (setItem (.ref D) (.int k t) v) Q E s := by
  have z := N (D, W.listOf vs.toArray n) (.head _)
  refine ki_setBack z.1 h0 (by simpa using hk) hfit (h _ (F.change (Heap.SameBut.update ..) z.2.1 z.2.2) (ki_turn (pre := []) (post := rest) (n' := n) _ N (fun _ h => nomatch h) hr ?_ ?_))
  · simp
  · simp
end

theorem item_list_neg {prog : Program} {w : World} {A : Around} {E : Value → Shared → Prop} {s : Shared} {value slice : PySem.Expr} {l : Addr} {vs : List Value} {k : Int} {u : Tok} {v : Value} {Q : Value → Shared → Prop}
    (hl : s.heap.IsList l vs.toArray) (h0 : k < 0) (hfit : -(2 ^ 63) ≤ k) (hk : -(vs.length : Int) ≤ k) (hx : vs[(k + vs.length).toNat]? = some v) (h : Q v s)
    (hs : subscripted slice false (.ref l) (.int k u) = operate [.ref l, .int k u] (getItem (.ref l) (.int k u)) := by with_unfolding_all rfl) :
    wpAny (model prog w) A (subscriptTail value slice (.ref l) (.int k u)) Q E s :=
  tail_any hl.typeIs slot_list_getitem.lookup (wpAny_getItem_list_neg hl h0 (by simpa using hk) hfit (by simpa using hx) h) hs
theorem upd_upd (x : Str) (u v : Option Value) (m₀ : Str → Option Value) : (fun y => if y = x then v else (fun y => if y = x then u else m₀ y) y) = fun y => if y = x then v else m₀ y := by
  funext y
  by_cases h : y = x <;> simp [h]
theorem sum_le_mul {l : List Nat} {b : Nat} (h : ∀ x ∈ l, x ≤ b) : l.sum ≤ l.length * b := by
  induction l with
  | nil => simp
  | cons a l ih =>
    have h1 := h a (.head _)
    have h2 := ih fun x hx => h x (.tail _ hx)
    rw [List.sum_cons, List.length_cons, Nat.add_mul, Nat.one_mul]; omega
theorem strsAre_set {vs : List Value} {ss : List Str} (h : StrsAre vs ss) : ∀ (i : Nat) (y : Str) (t : Tok), StrsAre (vs.set i (.str y t)) (ss.set i y) := by
  induction h with
  | nil => intro i y t; exact .nil
  | cons z u _ ih =>
    intro i y t
    cases i with
    | zero => exact .cons _ _ (by assumption)
    | succ i => exact .cons _ _ (ih i y t)

section
variable {prog : Program} {w : World} {A : Around} {E : Value → Shared → Prop} {s : Shared} {h₀ : Heap} {L D : Addr} {m : Str → Option Value} {rest : List (Addr × Obj)} {vs : List Value} {ss : List Str} {n : Nat}
theorem set_strs {k : Int} {t : Tok} {y : Str} {u : Tok} {Q : Unit → Shared → Prop} (hvs : StrsAre vs ss) (F : Fr h₀ L s.heap m) (N : News h₀ L s.heap ((D, W.listOf vs.toArray n) :: rest)) (hr : ∀ p ∈ rest, p.1 ≠ D) (h0 : 0 ≤ k) (hfit : k < 2 ^ 63) (hk : k < ss.length)
    (h : ∀ h' vs', StrsAre vs' (ss.set k.toNat y) → Fr h₀ L h' m → News h₀ L h' ((D, W.listOf vs'.toArray n) :: rest) → Q () { s with heap := h' }) : wpAny (model prog w) A (setItem (.ref D) (.int k t) (.str y u)) Q E s :=
  set_list F N hr h0 hfit (by rw [hvs.length]; exact hk) fun h' F' N' => h h' _ (strsAre_set hvs _ _ _) F' N'
theorem set_strs_neg {k : Int} {t : Tok} {y : Str} {u : Tok} {Q : Unit → Shared → Prop} (hvs : StrsAre vs ss) (F : Fr h₀ L s.heap m) (N : News h₀ L s.heap ((D, W.listOf vs.toArray n) :: rest)) (hr : ∀ p ∈ rest, p.1 ≠ D) (h0 : k < 0) (hfit : -(2 ^ 63) ≤ k) (hk : -(ss.length : Int) ≤ k)
    (h : ∀ h' vs', StrsAre vs' (ss.set (k + ss.length).toNat y) → Fr h₀ L h' m → News h₀ L h' ((D, W.listOf vs'.toArray n) :: rest) → Q () { s with heap := h' }) : wpAny (model prog w) A (setItem (.ref D) (.int k t) (.str y u)) Q E s :=
  set_list_neg F N hr h0 hfit (by rw [hvs.length]; exact hk) fun h' F' N' => h h' _ (by rw [hvs.length]; exact strsAre_set hvs _ _ _) F' N'
end

def Hid (P : Prop) : Prop := P
theorem Hid.mk {P : Prop} (h : P) : Hid P := h
theorem Hid.out {P : Prop} (h : Hid P) : P := h
theorem lookup_cons_if (y a : Str) (v : Value) (l : List (Str × Value)) : List.lookup y ((a, v) :: l) = if y = a then some v else List.lookup y l := by
  rw [List.lookup_cons]
  by_cases h : y = a
  · subst h; simp
  · have : (y == a) = false := by simpa using h
    rw [this, if_neg h]
theorem upd_new (x : Str) (m₀ : Str → Option Value) (h : m₀ x = none) : m₀ = fun y => if y = x then none else m₀ y := by
  funext y
  by_cases e : y = x
  · subst e; simp [h]
  · simp [e]

theorem range_small {a b : Int} (h1 : -1000000 ≤ a) (h2 : a ≤ 1000000) (h3 : -1000000 ≤ b) (h4 : b ≤ 1000000) : Builtin.Range.small a b 1 = true := by
  have fit : ∀ i : Int, -3000000 ≤ i → i ≤ 3000000 → Builtin.Range.rangeFitsLong i = true := by
    intro i h1 h2
    simp only [Builtin.Range.rangeFitsLong, Bool.and_eq_true, decide_eq_true_eq]
    omega
  simp only [Builtin.Range.small, rangeSize_nat, fit a (by omega) (by omega), fit b (by omega) (by omega), fit 1 (by omega) (by omega), fit ((b - a).toNat : Int) (by omega) (by omega), fit (b + (1 - 1)) (by omega) (by omega)]
  simp

def overs (cs : List Str) (u m₀ : Str → Option Value) (y : Str) : Option Value := match cs with
  | [] => m₀ y
  | c :: cs => if y = c then u c else overs cs u m₀ y
theorem overs_eq {cs : List Str} {m₁ m₀ : Str → Option Value} (h : ∀ y, y ∉ cs → m₁ y = m₀ y) : m₁ = overs cs m₁ m₀ := by
  funext y
  have key : ∀ cs' : List Str, (y ∉ cs' → m₁ y = m₀ y) → m₁ y = overs cs' m₁ m₀ y := by
    intro cs'
    induction cs' with
    | nil => intro h; exact h (by simp)
    | cons c cs' ih =>
      intro h
      show _ = if y = c then m₁ c else overs cs' m₁ m₀ y
      by_cases e : y = c
      · rw [if_pos e, e]
      · rw [if_neg e]; exact ih fun hn => h (by simp [e, hn])
  exact key cs (h y)
section
open PyProof.V PySem.Spec
variable {prog : Program} {w : World} {A : Around} {E : Value → Shared → Prop} {s : Shared} {env : Env} {h₀ : Heap} {x : Str} {body : List Stmt} {Q : Flow → Shared → Prop}
theorem iter_rangeK {r : Addr} {a₀ b₀ : Int} {t₀ u₀ v₀ : Tok} {m₀ : Str → Option Value} {news : List (Addr × Obj)} (n : Nat) (cs : List Str) (J : Nat → List (Addr × Obj) → Prop)
    (hh : A.handled = none) (hr : IsRange s.heap r a₀ b₀ 1 t₀ u₀ v₀) (hsmall : Builtin.Range.small a₀ b₀ 1 = true) (hn : Builtin.Range.rangeSize a₀ b₀ 1 = (n : Int)) (F : Fr h₀ env.locals s.heap m₀) (N : News h₀ env.locals s.heap news) (hj : J 0 news)
    (turn : ∀ i t u news₁ h tk I own, i < n → J i news₁ → (∀ p ∈ news₁, p.1 ≠ I) → (∀ p ∈ own, p.1 = I) → @LT.lt Nat _ I h.objs.size → Fr h₀ env.locals h (fun y => if y = x then some (.int (a₀ + (i : Int)) t) else overs cs u m₀ y) → News h₀ env.locals h (news₁ ++ own) →
      wpAny (model prog w) A (execs body env) (LoopStepV h₀ env.locals [I] own (fun m news => (∀ y, y ∉ x :: cs → m y = m₀ y) ∧ J (i + 1) news) { s with heap := h, toks := tk } (fun v s' => Q (.ret v) s') fun s' => Q .next s') E { s with heap := h, toks := tk })
    (done : ∀ u news₁ h tk, J n news₁ → Fr h₀ env.locals h (overs (x :: cs) u m₀) → News h₀ env.locals h news₁ → Q .next { s with heap := h, toks := tk }) :
    wpAny (model prog w) A (pyIter (.ref r)) (fun it s₂ => LoopAtV prog w A h₀ env x body Q E it s₂) E s := by
  refine iter_rangeJ (fun i m news => (∀ y, y ∉ x :: cs → m y = m₀ y) ∧ J i news) hh hr hsmall hn F N ⟨fun _ _ => rfl, hj⟩ ?_ ?_
  · rintro i t m₁ news₁ h tk I own hi ⟨hm, hJ⟩ hoff hown hlt F₁ N₁
    have e : (fun y => if y = x then some (Value.int (a₀ + (i : Int)) t) else m₁ y) = fun y => if y = x then some (Value.int (a₀ + (i : Int)) t) else overs cs m₁ m₀ y := by
      have e1 := overs_eq hm
      funext y
      by_cases hy : y = x
      · simp [hy]
      · simp only [if_neg hy]
        rw [e1]
        show (if y = x then m₁ x else overs cs m₁ m₀ y) = overs cs (overs (x :: cs) m₁ m₀) m₀ y
        rw [if_neg hy, ← e1]
    rw [e] at F₁
    exact turn i t m₁ news₁ h tk I own hi hJ hoff hown hlt F₁ N₁
  · rintro m₁ news₁ h tk ⟨hm, hJ⟩ F₁ N₁
    rw [overs_eq hm] at F₁
    exact done m₁ news₁ h tk hJ F₁ N₁
end
end Mine
namespace Mine
open PySem.Builtin PyProof.V PySem.Spec

theorem intsAre_of_filter {n : Nat} (pz : Nat → Bool) (p : Value → Bool) (hp : ∀ (i : Nat) t, p (.int i t) = pz i) {vs ys : List Value} (hlen : vs.length = n) (hP : ∀ (j : Nat) (v : Value), vs[j]? = some v → ∃ t, v = .int (j : Int) t)
    (hF : Paired (fun v y => y = v) (vs.filter p) ys) : IntsAre ys (((List.range n).filter pz).map fun (i : Nat) => (i : Int)) := by
  have e : ys = vs.filter p := by
    have : ∀ {a b : List Value}, Paired (fun v y => y = v) a b → b = a := by
      intro a b h
      induction h with
      | nil => rfl
      | cons h _ ih => rw [h, ih]
    exact this hF
  subst e
  clear hF
  have key : ∀ (l : List Value) (k : Nat), (∀ (j : Nat) (v : Value), l[j]? = some v → ∃ t, v = .int ((k + j : Nat) : Int) t) → IntsAre (l.filter p) (((List.range' k l.length).filter pz).map fun (i : Nat) => (i : Int)) := by
    intro l
    induction l with
    | nil => intro k _; exact .nil
    | cons v l ih =>
      intro k hl
      obtain ⟨t, rfl⟩ := hl 0 v rfl
      have ih' := ih (k + 1) fun j v hj => by
        obtain ⟨t, e⟩ := hl (j + 1) v (by simpa using hj)
        exact ⟨t, by rw [e, show k + (j + 1) = k + 1 + j by omega]⟩
      rw [List.length_cons, List.range'_succ, List.filter_cons, List.filter_cons]
      have e1 : p (.int ((k + 0 : Nat) : Int) t) = pz k := hp k t
      rw [e1]
      cases pz k with
      | true => exact .cons _ _ ih'
      | false => exact ih'
  have := key vs 0 fun j v hj => by obtain ⟨t, e⟩ := hP j v hj; exact ⟨t, by rw [e, Nat.zero_add]⟩
  rw [hlen, ← List.range_eq_range'] at this
  exact this

section
variable {prog : Program} {w : World} {A : Around} {E : Value → Shared → Prop} {s : Shared} {env : Env} {h₀ : Heap}
/-- [x for x in range(n) if c], stored -/
theorem asg_range_filter {x y : Str} {px py px' : Pos} {iter c : PySem.Expr} {scope : Scope} {cl : List (Str × Addr)} {pos spos : Pos} {Q : Flow → Shared → Prop} (pz : Nat → Bool) (n : Nat)
    (hh : A.handled = none)
    (hsw : swapsWith (.ListComp (.Name x px') [⟨.Name x px, iter, [c], 0⟩] scope pos) (some (.Name y py)) spos.line env = pure true)
    (hclos : closureFor scope env = pure cl) (hcell : ∀ z ∈ scope.names, z.2 ≠ .cell) (hkind : scope.kind = .function)
    (hnames : ∀ z ∈ scope.names, z.2 = .local → scope.names.lookup z.1 = some .local) (hx : scope.names.lookup x = some .local)
    (hy : env.kindOf y = some .local) (hp : (env.scope.kind == .class || (env.scope.kind == .module && env.locals != env.globals)) = false) (hd : (x == ("__debug__" : Str)) = false) (hn : n ≤ 1000000)
    (h : wpAny (model prog w) A (eval iter env) (fun xv s₁ => ∃ r t u v m news, xv = .ref r ∧ IsRange s₁.heap r 0 (n : Int) 1 t u v ∧ Fr h₀ env.locals s₁.heap m ∧ News h₀ env.locals s₁.heap news ∧
      (∀ C s₃ m₃ E' (i : Nat) t, i < n → s₃.heap.Ns C m₃ → m₃ x = some (.int (i : Int) t) → (∀ b o, s₁.heap.get? b = some o → s₃.heap.get? b = some o) →
        wpAny (model prog w) A (isTrue c (compEnvC scope cl C env) (eval c (compEnvC scope cl C env))) (fun ok s₄ => ok = pz i ∧ Keeps s₃ s₄) E' s₃) ∧
      (∀ D h' tk ys c, Fr h₀ env.locals h' (fun z => if z = y then some (.ref D) else m z) → News h₀ env.locals h' ((D, W.listOf (List.toArray ys) c) :: news) → (∀ p ∈ news, p.1 ≠ D) →
        IntsAre ys (((List.range n).filter pz).map fun (i : Nat) => (i : Int)) → Q .next { s₁ with heap := h', toks := tk })) E s)
    (hs : ∀ x, foldedSetIterable iter env x = pure x := by intro _; rfl) :
    wpAny (model prog w) A (exec (.Assign [.Name y py] (.ListComp (.Name x px') [⟨.Name x px, iter, [c], 0⟩] scope pos) spos) env) Q E s := by
  refine wpAny_Assign_ListComp_free (fun v => match v with | .int k _ => pz k.toNat | _ => false) (fun v y => y = v) hsw hclos hcell hkind hnames hx hy hp (wpAny_mono h (fun xv s₁ h₁ => ?_) fun _ _ e => e) hs
  obtain ⟨r, t, u, v, m, news, rfl, hr, F, N, ht, hQ⟩ := h₁
  have hsz : Builtin.Range.rangeSize 0 (n : Int) 1 = (n : Int) := by rw [rangeSize_nat]; omega
  refine wpAny_pyIter_range hr (range_small (by omega) (by omega) (by omega) (by omega)) ?_
  have W : Walks prog w A s₁.heap.objs.size [s₁.heap.objs.size] [s₁.heap.objs.size] n (fun i v => i < n ∧ ∃ t, v = .int (0 + i * 1) t)
      (fun i h => IsRangeIter h s₁.heap.objs.size (0 + (i : Nat) * 1) ((n : Int) - (i : Nat)) 1) := (Walks.range hh _ 0 1 n).bound
  have hLI : env.locals ≠ s₁.heap.objs.size := Nat.ne_of_lt F.ns.lt
  refine ⟨_, _, _, n, _, _, m, rfl, W, by rw [sizeLine_eq]; omega, (by show IsRangeIter _ _ _ _ _; rw [hsz]; simpa using Heap.get?_push_size _ rfl), ?_, ?_, F.ns.push _, ⟨?_, ?_⟩, ?_⟩
  · intro b hb; rw [List.mem_singleton.mp hb, Heap.size_push]; exact Nat.lt_succ_self _
  · intro hm; exact hLI (List.mem_singleton.mp hm)
  · rintro C i v s₃ m₃ E' hC ⟨hi, t', rfl⟩ hn₃ hx₃ hk _
    have e0 : (0 + (i : Int) * 1) = (i : Int) := by omega
    rw [e0] at hx₃ ⊢
    have hk' : ∀ b o, s₁.heap.get? b = some o → s₃.heap.get? b = some o := fun b o e => hk b o (fun hm => absurd (Heap.lt_size e) (by rw [List.mem_singleton.mp hm]; exact Nat.lt_irrefl _)) (Heap.get?_push_of_some _ e)
    refine wpAny_tests_one (wpAny_mono (ht C s₃ m₃ E' i t' hi hn₃ hx₃ hk') (fun ok s₄ hq => ⟨?_, hq.2⟩) fun _ _ e => e)
    rw [hq.1]; show pz i = pz (i : Int).toNat; rw [Int.toNat_natCast]
  · rintro C i v s₃ m₃ E' hC _ _ hn₃ hx₃ hk _
    have hkd : (compEnvC scope cl C env).kindOf x = some .local := lookup_relabel_local hx
    have hk3 : (compEnvC scope cl C env).scope.kind = .function := by simp [compEnvC, relabel, hkind]
    exact wpAny_Name (wpAny_loadName_local hk3 hkd hn₃ hx₃ ⟨rfl, ⟨s₃.heap, s₃.toks, rfl, fun _ _ e => e⟩⟩) hd
  · intro D h' tk ys vs hD hl hpl hlen hP hF hns hk
    obtain ⟨c, hpl⟩ := hpl
    have hk' : ∀ b o, b ≠ env.locals → s₁.heap.get? b = some o → h'.get? b = some o := fun b o hb e => hk b o hb (fun hm => absurd (Heap.lt_size e) (by rw [List.mem_singleton.mp hm]; exact Nat.lt_irrefl _)) (Heap.get?_push_of_some _ e)
    have hold : ∀ b o, s₁.heap.get? b = some o → b ≠ D := fun b o e hb => by
      have := Heap.get?_push_of_some { cls := .type "range_iterator", data := .fields #[rawInt 0, rawInt (Builtin.Range.rangeSize 0 (n : Int) 1), rawInt 1] } e
      rw [hb] at this
      rw [show (s₁.heap.push { cls := .type "range_iterator", data := .fields #[rawInt 0, rawInt (Builtin.Range.rangeSize 0 (n : Int) 1), rawInt 1] }).get? D = none from hD] at this
      cases this
    have hDL : D ≠ env.locals := fun e => by
      obtain ⟨oL, _, _, hoL, _⟩ := F.ns
      exact hold _ _ hoL e.symm
    have F' : Fr h₀ env.locals h' (fun z => if z = y then some (.ref D) else m z) := ⟨hns, fun b o e => hk' b o (Nat.ne_of_lt (Nat.lt_of_lt_of_le (Heap.lt_size e) F.above)) (F.keep b o e), F.above⟩
    refine hQ D h' tk ys.toList c F' ?_ (fun p hp e => hold _ _ (N p hp).1 e) (intsAre_of_filter pz _ (fun i t => by show pz (i : Int).toNat = pz i; rw [Int.toNat_natCast]) hlen (fun j v hj => by obtain ⟨_, t, e⟩ := hP j v hj; exact ⟨t, by rw [e]; congr 1; omega⟩) hF)
    intro p hp
    rcases List.mem_cons.mp hp with rfl | hp
    · refine ⟨hpl, hDL, ?_⟩
      cases q : h₀.get? D with
      | none => rfl
      | some o => exact absurd rfl (hold _ _ (F.keep _ _ q))
    · exact ⟨hk' _ _ (N p hp).2.1 (N p hp).1, (N p hp).2⟩
end
end Mine
namespace Mine
open PySem.Builtin
section
variable {K : Frag} {pv : Program} {lo : List Str} {mean : ExcName → Option Value} {mg mb : Str → Option Value} {A : Around} {h h' : Heap} {d : Nat}
theorem Cx.make (C : Cx K pv lo mean mg mb A h (d + 1)) (c : Addr) (vals : List Value) : Cx K pv lo mean mg mb (A.under (.builtin "type.__call__" ⟨.ref c :: vals, []⟩)) h d :=
  ⟨C.hh, by rw [depth_under_make]; have := C.dep; omega, by rw [units_under_make]; have := C.un; omega, C.K, C.T⟩
variable {prog : Program} {w : World} {s : Shared}
theorem fn_code {f : Addr} {oc : Value} {od : Option Addr} {osl : Array (Option Value)} {name qual : Str} {params : Arguments} {body : List Stmt} {scope : Scope} {dV kV doc pm cdv ct : Value} {an : Option Addr} {args : Args} {binds : List (Str × Value)} {R : Result → Shared → Prop}
    (C : Cx K pv lo mean mg mb A s.heap (d + 1)) (ho : K.lookup f = some ⟨oc, od, .func (fnOf name qual params body scope dV kV doc pm an cdv ct), osl⟩) (hcd : codeIn K cdv qual = true)
    (hbind : BindsTo s (fnOf name qual params body scope dV kV doc pm an cdv ct) args binds) (hloc : ∀ y ∈ binds, scope.names.lookup y.1 = some .local)
    (hb : ∀ L h₁, L = s.heap.objs.size → Fr s.heap L h₁ (fun y => binds.reverse.lookup y) → News s.heap L h₁ [] →
      wpAny (model prog w) (A.deeper (envOf qual scope L f cdv)) (execs body (envOf qual scope L f cdv))
        (fun fl s' => R (.ok (.ret (match fl with | .ret v => v | _ => .none))) s') (fun _ _ => False) { s with heap := h₁, toks := s.toks + binds.length })
    (hco : scope.isCoroutine = false := by rfl) (hgen : scope.isGenerator = false := by rfl) (hk : scope.kind = .function := by rfl)
    (hcell : ∀ x ∈ scope.names, x.2 ≠ .cell := by decide) : codeAny (model prog w) A (.call (.ref f) args) R s := by
  refine codeAny_call_def (fd := fnOf name qual params body scope dV kV doc pm an cdv ct) (body := body) (binds := binds) (by have := C.dep; omega) (C.K _ _ ho) rfl C.T.nolimit (codeRec_of C.K hcd) rfl hbind hcell hloc (fun h₁ hns hk₁ => ?_) hco hgen hk
  have F : Fr s.heap s.heap.objs.size h₁ (fun y => binds.reverse.lookup y) := ⟨hns, hk₁, Nat.le_refl _⟩
  exact wpAny_mono (hb _ h₁ rfl F News.nil) (fun _ _ x => x) fun _ _ x => x.elim
end
end Mine
namespace Mine
open PySem.Builtin PySem.Spec

/-- the first i of the texts, as a set -/
def among (ss : List Str) (i : Nat) (k : Str) : Bool := (ss.take i).any fun a => decide (k = a)
theorem among_zero (ss : List Str) : among ss 0 = fun _ => false := rfl
theorem among_succ {ss : List Str} {i : Nat} {x : Str} (h : ss[i]? = some x) : among ss (i + 1) = fun k => among ss i k || decide (k = x) := by
  funext k
  unfold among
  rw [List.take_add_one, h, List.any_append]
  simp
theorem among_all (ss : List Str) : among ss ss.length = fun k => ss.any fun a => decide (k = a) := by
  funext k; unfold among; rw [List.take_length]

section
variable {prog : Program} {w : World} {A : Around} {R : Result → Shared → Prop} {I : Addr} {fp wr : List Addr} {G : Array GenState → Array GenState → Prop} {n : Nat} {P : Nat → Value → Prop} {St : Nat → Shared → Prop}

theorem update_strs (W : WalksS prog w A.in1 I fp wr G n P St) (S : Addr) (hSf : S ∉ fp) (ss : List Str) (hval : ∀ i v, P i v → ∃ x t, ss[i]? = some x ∧ v = .str x t) (hb : n + 1 < scanBound) :
    ∀ (k i : Nat) (s : Shared), n - i = k → i ≤ n → St i s → (∃ c, c ≤ i ∧ s.heap.SetOf (strKind prog w) S (among ss i) c) →
      (∀ s', Moved (S :: wr) G s s' → (∃ c, c ≤ n ∧ s'.heap.SetOf (strKind prog w) S (among ss n) c) → R (.ok (.ret .none)) s') →
      codeAny (model prog w) A (.builtin "set.update.loop" ⟨[.ref S, .ref I], []⟩) R s := by
  have hSw : S ∉ wr := fun h => hSf (W.sub _ h)
  have hsub : ∀ b ∈ wr, b ∈ S :: wr := fun b hb => List.mem_cons_of_mem _ hb
  intro k
  induction k with
  | zero =>
    intro i s hk hi hst hS hR
    obtain rfl : i = n := by omega
    refine codeAny_builtin F.entry_set_update_loop ?_
    rw [Around.under_plainId F.plain_set_update_loop _]
    show wpAny _ A.in1 (pyNext (.ref I) >>= _) _ _ s
    refine wpAny_bind (W.done s _ _ hst fun s' hm => ?_)
    show wpAny _ A.in1 (ret Value.none) _ _ s'
    refine wpAny_pure (hR s' (hm.mono hsub) ?_)
    obtain ⟨c, hc, o, es, ep, t, ho, rest⟩ := hS
    exact ⟨c, hc, o, es, ep, t, hm.heap S _ hSw ho, rest⟩
  | succ k ih =>
    intro i s hk hi hst hS hR
    have hlt : i < n := by omega
    refine codeAny_builtin F.entry_set_update_loop ?_
    rw [Around.under_plainId F.plain_set_update_loop _]
    show wpAny _ A.in1 (pyNext (.ref I) >>= _) _ _ s
    refine wpAny_bind (W.item i s _ _ hlt hst fun v s' hP hst' hm => ?_)
    obtain ⟨x, t, hx, rfl⟩ := hval i v hP
    obtain ⟨c, hc, o, es, ep, tb, ho, rest⟩ := hS
    have hS' : s'.heap.SetOf (strKind prog w) S (among ss i) c := ⟨o, es, ep, tb, hm.heap S _ hSw ho, rest⟩
    show wpAny _ A.in1 (holding [Value.str x t] (setAdd S (.str x t)) >>= _) _ _ s'
    refine wpAny_bind (wpAny_holding ?_)
    unfold setAdd
    refine wpAny_holding ?_
    have hk : (strKind prog w).is x (.str x t) = true := by show Value.isStrOf x (.str x t) = true; simp [Value.isStrOf]
    refine wpAny_bind ((strKind prog w).pyHash (k := x) hk ?_)
    refine wpAny_setAddHashed_of (knd := strKind prog w) (s := { s' with toks := s'.toks + 1 }) hk rfl hS' (by omega) fun h' hsb hS2 => ?_
    rw [← among_succ hx] at hS2
    refine wpAny_pure ⟨plainId_quiet F.plain_set_update_loop _, ih (i + 1) _ (by omega) hlt (W.frame _ s' _ _ hst' (Nat.le_succ _) fun b hb o e => ?_) ⟨_, ?_, hS2⟩ fun s'' hm'' hS'' => ?_⟩
    · rw [hsb.2 b (fun h : b = S => hSf (by rw [← h]; exact hb))]; exact e
    · split <;> omega
    · refine hR s'' (Moved.trans W.gtrans ((hm.mono hsub).then_heap (Nat.le_succ _) fun b o hb e => ?_) hm'') hS''
      rw [hsb.2 b (fun h : b = S => hb (by rw [h]; exact List.mem_cons_self))]; exact e
end

section
variable {prog : Program} {w : World} {A : Around} {E : Value → Shared → Prop} {s : Shared}
set_option maxHeartbeats 3200000 in
/-- set(a list of texts) -/
theorem call_set_strs {l : Addr} {vs : List Value} {ss : List Str} {Q : Value → Shared → Prop}
    (hh : A.handled = none) (hl : s.heap.IsList l vs.toArray) (hi : StrsAre vs ss) (hb : ss.length + 1 < scanBound)
    (h : ∀ (h' : Heap) (tk n : Nat), h'.SetOf (strKind prog w) s.heap.objs.size (fun k => ss.any fun a => decide (k = a)) n →
      (∀ b o, s.heap.get? b = some o → h'.get? b = some o) → Q (.ref s.heap.objs.size) { s with heap := h', toks := tk }) :
    wpAny (model prog w) A (call (.type "set") [.ref l]) Q E s := by
  have hvl : vs.toArray.size = ss.length := by rw [List.size_toArray, hi.length]
  obtain ⟨c, tl, hmro⟩ := F.called_set.mro
  have hmade := F.called_set.made
  have hsub := F.called_set.sub
  refine wpAny_call (codeAny_of_tree ?_)
  show wpAny _ _ (callAny (.type "set") _) _ _ _
  refine wpAny_pure ⟨Code.quiet_builtin _ (by decide +kernel), codeAny_builtin F.entry_type_call ?_⟩
  rw [Around.under_plain (weight_type_call_type "set" [.ref l] []) rfl]
  have h1 := F.called_set.notType
  have h2 := F.called_set.canCreate
  have hct := F.typeCall_set_1 (.ref l)
  repeat (any_goals (first | assumption | wp_step))
  refine codeAny_mono (code_set_new_1 (.ref l) (E := E) (Q₁ := fun obj s₁ => ∃ led : Bool, obj = .ref s.heap.objs.size ∧ s₁ = { s with heap := s.heap.push { cls := .type "set", dict := none, data := .set #[] 0 (.fresh 0 0 led) } }) fun led => ⟨led, rfl, rfl⟩) fun r s₁ hr => ?_
  cases r with
  | error e => exact hr
  | ok fl =>
    cases fl with
    | ret obj =>
      obtain ⟨led, rfl, rfl⟩ := hr
      have hS : (s.heap.push { cls := .type "set", dict := none, data := .set #[] 0 (.fresh 0 0 led) }).get? s.heap.objs.size = some { cls := .type "set", dict := none, data := .set #[] 0 (.fresh 0 0 led) } := Heap.get?_push_size _ rfl
      have hT : Shared.TypeIs { s with heap := s.heap.push { cls := .type "set", dict := none, data := .set #[] 0 (.fresh 0 0 led) } } (.ref s.heap.objs.size) "set" := ⟨_, hS, rfl⟩
      have hli := F.called_set.init.lookup
      have hbi := F.called_set.init.bind (.ref s.heap.objs.size)
      repeat (any_goals (first | assumption | wp_step))
      refine codeAny_mono (codeAny_call_builtin (R := wants (fun r s₂ => r = .none ∧ ∃ h' tk n, s₂ = { s with heap := h', toks := tk } ∧
          h'.SetOf (strKind prog w) s.heap.objs.size (fun k => ss.any fun a => decide (k = a)) n ∧
          (∀ b o, s.heap.get? b = some o → h'.get? b = some o)) E) F.called_set.init.plain F.entry_set_init (check_set_init_1 hT ?_)) fun r₂ s₂ hr₂ => ?_
      · obtain ⟨ol, hol, hcl, nl, hdl⟩ := hl
        obtain ⟨ocls, odict, odata, oslots⟩ := ol
        simp only at hcl hdl
        subst hcl; subst hdl
        have hol' : (s.heap.push { cls := .type "set", dict := none, data := .set #[] 0 (.fresh 0 0 led) }).get? l = some { cls := .type "list", dict := odict, data := .seq vs.toArray nl, slots := oslots } := Heap.get?_push_of_some _ hol
        have hsls := F.sub_list_set
        have hslf := F.sub_list_frozenset
        have hne : (Value.type "list" == Value.type "dict") = false := by decide
        have hl1 : (s.heap.push { cls := .type "set", dict := none, data := .set #[] 0 (.fresh 0 0 led) }).IsList l vs.toArray := ⟨_, hol', rfl, nl, rfl⟩
        unfold Builtin.«set.__init__» noKeywords Builtin.Frozenset.updateFrom
        generalize hPI : pyIter = PI
        wp_walk
        subst hPI
        refine wpAny_pyIter_list hl1 ?_
        refine wpAny_bind (wpAny_runValue ?_)
        have hlS : l < s.heap.objs.size := Heap.lt_size hol
        have hh3 : A.in1.in1.in1.handled = none := by simp [hh]
        have hneI : l ≠ (s.heap.push { cls := .type "set", dict := none, data := .set #[] 0 (.fresh 0 0 led) }).objs.size := by
          rw [Heap.size_push]; exact Nat.ne_of_lt (Nat.lt_succ_of_lt hlS)
        have hSf : s.heap.objs.size ∉ [(s.heap.push { cls := .type "set", dict := none, data := .set #[] 0 (.fresh 0 0 led) }).objs.size, l] := by
          rw [Heap.size_push]; simp only [List.mem_cons, List.not_mem_nil, or_false, not_or]
          exact ⟨Nat.ne_of_lt (Nat.lt_succ_self _), Nat.ne_of_gt hlS⟩
        have hval : ∀ (i : Nat) (v : Value), vs.toArray[i]? = some v → ∃ x t, ss[i]? = some x ∧ v = .str x t := fun i v hv => by
          have hv' : vs[i]? = some v := by simpa using hv
          have hlt : i < ss.length := by rw [← hi.length]; exact (List.getElem?_eq_some_iff.mp hv').1
          obtain ⟨t, e⟩ := hi.get i ss[i] (List.getElem?_eq_getElem hlt)
          rw [hv'] at e
          exact ⟨_, t, List.getElem?_eq_getElem hlt, Option.some.inj e⟩
        refine update_strs ((Walks.list hh3 _ l hneI vs.toArray).toS) s.heap.objs.size hSf ss hval (by rw [hvl]; exact hb) (vs.toArray.size - 0) 0 _ (by omega) (Nat.zero_le _)
          ⟨⟨_, Heap.get?_push_size _ rfl, rfl, rfl⟩, (hl1.push _)⟩ ?hS0 ?hR
        case hS0 =>
          have hget : ((s.heap.push { cls := .type "set", dict := none, data := .set #[] 0 (.fresh 0 0 led) }).push { cls := .type "list_iterator", data := .fields #[.ref l, .int 0 0] }).get? s.heap.objs.size
              = some { cls := .type "set", dict := none, data := .set #[] 0 (.fresh 0 0 led) } := Heap.get?_push_of_some _ hS
          exact ⟨0, Nat.le_refl _, SetOf_congr ((setObjOf_fresh (knd := strKind prog w) led).setOf hget (by unfold scanBound; omega)) (fun _ => rfl) rfl⟩
        case hR =>
          intro s' hm hS'
          obtain ⟨h', g', d', tk', os'⟩ := s'
          have eg : g' = s.gens := hm.gens
          have ed : d' = s.drawn := hm.drawn
          have eo : os' = s.os := hm.os
          subst eg; subst ed; subst eo
          obtain ⟨n', _, hS'⟩ := hS'
          rw [hvl, among_all] at hS'
          show wpAny _ _ _ _ _ _
          refine wpAny_pure ?_
          show wpAny _ _ (ret Value.none) _ _ _
          refine wpAny_pure ⟨rfl, h', tk', n', rfl, hS', fun b o e => ?_⟩
          have hb : b < s.heap.objs.size := Heap.lt_size e
          have hb1 : b ≠ s.heap.objs.size := Nat.ne_of_lt hb
          have hb2 : b ≠ (s.heap.push { cls := .type "set", dict := none, data := .set #[] 0 (.fresh 0 0 led) }).objs.size := by
            rw [Heap.size_push]; exact Nat.ne_of_lt (Nat.lt_succ_of_lt hb)
          exact hm.heap b o (by simp only [List.mem_cons, List.not_mem_nil, or_false, not_or]; exact ⟨hb1, hb2⟩) (Heap.get?_push_of_some _ (Heap.get?_push_of_some _ e))
      · cases r₂ with
        | error e => exact hr₂
        | ok fl₂ =>
          cases fl₂ with
          | ret r =>
            obtain ⟨rfl, h', tk, n', rfl, hS', hk'⟩ := hr₂
            repeat (any_goals (first | assumption | wp_step))
            exact h _ _ _ hS' hk'
          | _ => exact hr₂.elim
    | _ => exact hr.elim

/-- the set's own test, called as a plain function of two -/
theorem call_set_contains {a : Addr} {S : Str → Bool} {n : Nat} {k : Str} {t : Tok} {Q : Value → Shared → Prop} (hS : s.heap.SetOf (strKind prog w) a S n)
    (h : Q (.bool (S k)) { s with toks := s.toks + 1 }) : wpAny (model prog w) A (call (.builtin "set.__contains__") [.ref a, .str k t]) Q E s := by
  have hkey : (strKind prog w).is k (.str k t) = true := by show Value.isStrOf k (.str k t) = true; simp [Value.isStrOf]
  refine wpAny_call_entry F.slot_set_contains hS.typeIs entry_set_contains ?_ (F.args_set_contains_2 _ _)
  unfold Builtin.«frozenset.__contains__» Builtin.Frozenset.oneOther
  simp only [List.isEmpty_nil, bind_assoc]
  unfold Builtin.Frozenset.addrOf Builtin.Frozenset.withSetAsKey setContains
  refine wpAny_bind (wpAny_pure ?_)
  try dsimp only
  refine wpAny_bind (wpAny_pure ?_)
  try dsimp only
  refine wpAny_bind (wpAny_tryCatch ?_)
  refine wpAny_holding ?_
  refine wpAny_bind ((strKind prog w).pyHash hkey ?_)
  refine wpAny_bind (wpAny_setFind_of (s := { s with toks := s.toks + 1 }) hkey rfl hS fun r hr => ?_)
  refine wpAny_pure ?_
  show wpAny _ _ (ret (Value.bool r.isSome)) _ _ _
  rw [hr]
  exact wpAny_pure ⟨_, rfl, h⟩
end
end Mine
namespace Mine
open PySem.Builtin PySem.Spec

theorem slot_md_get : Slot "method_descriptor" "__get__" "method_descriptor.__get__" :=
  .of (owner := "method_descriptor") (n := "__get__") (by rw [typeLookup_type, builtinLookup_eq_fast]; kernel_rfl) (by decide +kernel) (by decide +kernel) (by decide +kernel)
    (by first | exact .inl (by decide +kernel) | exact .inr (by decide +kernel)) (by rw [isSubtype_type]; kernel_rfl)
theorem md_no_set : typeLookup (.type "method_descriptor") "__set__" = pure none := by rw [typeLookup_type, builtinLookup_eq_fast]; kernel_rfl
theorem md_no_delete : typeLookup (.type "method_descriptor") "__delete__" = pure none := by rw [typeLookup_type, builtinLookup_eq_fast]; kernel_rfl
theorem entry_md_get : entryFor table "method_descriptor.__get__" = some Builtin.«method_descriptor.__get__» := entryFor_of_tree (by kernel_rfl)
theorem args_md_get (a b c : Value) : argsOk "method_descriptor.__get__" ⟨[a, b, c], []⟩ := by unfold argsOk; kernel_rfl
theorem told_no : Manifest.toldItsClass.contains "set.__contains__" = false := by decide +kernel
theorem sub_set_owner : isSubtype (.type "set") (.type (".".intercalate ("set.__contains__".cutAt '.').dropLast)) = pure true := by
  have e : ".".intercalate ("set.__contains__".cutAt '.').dropLast = "set" := by decide +kernel
  rw [e, isSubtype_type]; kernel_rfl

section
variable {prog : Program} {w : World} {A : Around} {E : Value → Shared → Prop} {h : Heap} {g : Array GenState} {d : Drawn} {t : Nat} {os : OsState} {a : Addr} {o : Obj}
abbrev bound (a : Addr) : Obj := { cls := .type "builtin_function_or_method", data := .fields #[.builtin "set.__contains__", .ref a] }

set_option maxHeartbeats 4000000 in
theorem md_get_set {R : Result → Shared → Prop} (hx : h.get? a = some o) (hc : o.cls = .type "set") (hq : R (.ok (.ret (.ref h.objs.size))) ⟨h.push (bound a), g, d, t, os⟩) :
    codeAny (model prog w) A (.call (.builtin "method_descriptor.__get__") ⟨[.builtin "set.__contains__", .ref a, .type "set"], []⟩) R ⟨h, g, d, t, os⟩ := by
  have hT : (⟨h, g, d, t, os⟩ : Shared).TypeIs (.ref a) "set" := ⟨_, hx, hc⟩
  have hT5 : (⟨h, g, d, t, os⟩ : Shared).TypeIs (.builtin "set.__contains__") "method_descriptor" := F.type_set_contains
  have f8 := sub_set_owner
  have f9 := told_no
  refine codeAny_call_builtin slot_md_get.plain entry_md_get (slot_md_get.check _ _ _ _ _ _ _ _ hT5 (args_md_get _ _ _) ?_)
  iterate 12 (first | assumption | wp_step)
  refine wpAny_bind ?_
  with_unfolding_all refine wpAny_bind (m := pure _) (wpAny_pure ?_)
  try dsimp only
  refine wpAny_bind (wpAny_isInstance hT f8 ?_)
  try dsimp only
  rw [if_neg (by decide)]
  refine wpAny_pure ?_
  refine wpAny_bind ?_
  unfold newFields newObj
  refine wpAny_bind (wpAny_alloc (wpAny_pure ?_))
  exact wpAny_pure hq

set_option maxHeartbeats 4000000 in
theorem ga_entry {tk : Tok} {Q : Fin → Shared → Prop} (hx : h.get? a = some o) (hc : o.cls = .type "set") (hd : o.dict = none) {es : Array (Int × Value)} {ep : Nat} {tb : SetTable} (hcd : o.data = .set es ep tb) (hq : Q (.done (.ret (.ref h.objs.size))) ⟨h.push (bound a), g, d, t, os⟩) :
    wpAny (model prog w) A (Builtin.«object.__getattribute__» ⟨[.ref a, .str "__contains__" tk], []⟩) Q E ⟨h, g, d, t, os⟩ := by
  have hT : (⟨h, g, d, t, os⟩ : Shared).TypeIs (.ref a) "set" := ⟨_, hx, hc⟩
  have hT5 : (⟨h, g, d, t, os⟩ : Shared).TypeIs (.builtin "set.__contains__") "method_descriptor" := F.type_set_contains
  have f4 := F.slot_set_contains.lookup
  have f5 := F.type_set_contains
  have f6 := slot_md_get.lookup
  have f7 := md_no_set
  have f8 := md_no_delete
  iterate 14 (first | assumption | wp_step)
  refine wpAny_of_eq f4 ?_
  refine wpAny_bind (m := ObjectAttr.getOf _) (wpAny_specialOf hT5 f6 ?_)
  refine wpAny_bind (m := ObjectAttr.dataDescriptor? _ _) ?_
  show wpAny _ _ (ObjectAttr.takesStores _ >>= _) _ _ _
  unfold ObjectAttr.takesStores
  refine wpAny_bind ?_
  refine wpAny_bind (wpAny_specialOf hT5 f7 ?_)
  try dsimp only
  rw [if_neg (by decide)]
  refine wpAny_bind (wpAny_specialOf hT5 f8 ?_)
  refine wpAny_pure ?_
  try dsimp only
  rw [if_neg (by decide)]
  refine wpAny_pure ?_
  try dsimp only
  unfold ObjectAttr.ownThenClass
  refine wpAny_bind ?_
  show wpAny _ _ (ObjectAttr.ownDict a >>= _) _ _ _
  obtain ⟨oc, odi, oda, osl⟩ := o
  dsimp only at hc hd hcd
  subst hc hd hcd
  refine wpAny_bind (wpAny_bind (wpAny_loadPart hx ?_))
  dsimp only
  unfold instanceDict
  refine wpAny_bind (wpAny_loadPart hx ?_)
  show wpAny _ _ (pure none) _ _ _
  refine wpAny_pure ?_
  show wpAny _ _ (pure none) _ _ _
  refine wpAny_pure ?_
  try dsimp only
  unfold ObjectAttr.copiedAttributeGuard ObjectAttr.byTheClass
  try dsimp only
  rw [if_neg (by decide)]
  refine wpAny_bind (wpAny_pure ?_)
  refine wpAny_bind (wpAny_rule (wpAny_pure ?_))
  try dsimp only
  unfold ObjectAttr.bindTo
  try dsimp only
  refine wpAny_bind (wpAny_holding ?_)
  refine wpAny_call ?_
  refine md_get_set (o := ⟨_, _, _, _⟩) hx rfl ?_
  try dsimp only
  exact wpAny_pure hq

theorem getattr_contains {S : Str → Bool} {n : Nat} {s : Shared} {Q : Value → Shared → Prop} (hS : s.heap.SetOf (strKind prog w) a S n)
    (hq : Q (.ref s.heap.objs.size) { s with heap := s.heap.push (bound a), toks := s.toks + 1 }) : wpAny (model prog w) A (getAttr (.ref a) (Str.ofString "__contains__") true) Q E s := by
  obtain ⟨h, g, d, t, os⟩ := s
  obtain ⟨o, es, ep, tb, ho, ⟨hc, hd, hsl⟩, hdt, _⟩ := hS
  have hT : ∀ t', (⟨h, g, d, t', os⟩ : Shared).TypeIs (.ref a) "set" := fun _ => ⟨_, ho, hc⟩
  have f2 := F.slot_set_getattribute.lookup
  unfold getAttr getAttrBy
  refine wpAny_bind (wpAny_mkText (wpAny_holding (wpAny_bind (wpAny_typeOf (hT _) (wpAny_bind (wpAny_of_eq f2 ?_))))))
  show wpAny _ _ (getAttrByItsOwn (.ref a) (.str (Str.ofString "__contains__") t) (.type "set") (.builtin "set.__getattribute__") true true) _ _ _
  unfold getAttrByItsOwn hookBefore callGetattribute boundAndCalled
  refine wpAny_bind (wpAny_of_eq (show (if onTheHeap (.type "set") then typeLookup (.type "set") "__getattr__" else pure none) = pure none from rfl) ?_)
  refine wpAny_bind (wpAny_attempt (wpAny_holding ?_))
  show wpAny _ _ (bindSpecial (.builtin "set.__getattribute__") (.ref a) >>= _) _ _ _
  refine wpAny_bind (wpAny_of_eq (F.slot_set_getattribute.bind _) ?_)
  refine wpAny_mono (Q := fun v s' => v = .ref h.objs.size ∧ s' = ⟨h.push (bound a), g, d, t + 1, os⟩) (E := fun _ _ => False)
    (wpAny_call_entry F.slot_set_getattribute (hT _) F.entry_set_ga (ga_entry ho hc hd hdt ⟨_, rfl, rfl, rfl⟩) (F.args_set_getattribute_2 _ _)) (fun v s' hv => ?_) fun _ _ z => z.elim
  obtain ⟨rfl, rfl⟩ := hv
  exact wpAny_pure hq

theorem sub_set_module : isSubtype (.type "set") (.type "module") = pure false := by rw [isSubtype_type]; kernel_rfl
theorem sub_set_type : isSubtype (.type "set") (.type "type") = pure false := by rw [isSubtype_type]; kernel_rfl
theorem kind_sc : builtinKind "set.__contains__" = some .method := by kernel_rfl
theorem sig_sc : Manifest.signature? "set.__contains__" = some ⟨.oneArg, "set.__contains__", "__contains__", .self, [⟨"object", .posOnly, true⟩]⟩ := by
  rw [signature?_of (id := "set.__contains__") (n := ['_', '_', 's', 'n', 'i', 'a', 't', 'n', 'o', 'c', '_', '_']) (o := ['t', 'e', 's']) (by kernel_rfl) F.owner_set]; kernel_rfl

theorem args_sc (x : Value) (k : Str) (tk : Tok) : Bind.checkArgs "set.__contains__" ⟨.oneArg, s!"{Bind.lastOf "set"}.{Bind.lastOf "set.__contains__"}", "__contains__", .self, [⟨"object", .posOnly, true⟩]⟩ ⟨[x, .str k tk], []⟩ = pure () := by kernel_rfl
theorem varargs_sc : Manifest.varargsMethods.contains "set.__contains__" = false := by decide +kernel
theorem check_sc {s : Shared} {a : Addr} {S : Str → Bool} {n : Nat} {k : Str} {tk : Tok} {Q : Unit → Shared → Prop} (hS : s.heap.SetOf (strKind prog w) a S n) (hq : Q () s) :
    wpAny (model prog w) A (checkBoundCall "set.__contains__" ⟨[.ref a, .str k tk], []⟩) Q E s := by
  have hT := hS.typeIs
  obtain ⟨o, es, ep, tb, ho, ⟨hc, hd, hsl⟩, hdt, _⟩ := hS
  unfold checkBoundCall
  simp only [sig_sc, kind_sc]
  rw [if_neg (by decide)]
  refine wpAny_bind (wpAny_isInstance hT sub_set_module ?_)
  simp only [varargs_sc, Bool.false_or, Bool.false_eq_true, if_false]
  refine wpAny_bind (m := isType (.ref a)) ?_
  show wpAny _ _ (loadHead a >>= _) _ _ _
  refine wpAny_bind (wpAny_loadPart ho ?_)
  obtain ⟨oc, odi, oda, osl⟩ := o
  dsimp only at hc hd hdt
  subst hc hd hdt
  refine wpAny_pure ?_
  simp only [Bool.false_eq_true, if_false]
  refine wpAny_bind (wpAny_typeOf hT ?_)
  exact wpAny_of_eq (args_sc _ _ _) hq
theorem call_bound {s : Shared} {B a : Addr} {S : Str → Bool} {n : Nat} {k : Str} {tk : Tok} {Q : Value → Shared → Prop} (hB : s.heap.get? B = some (bound a)) (hS : s.heap.SetOf (strKind prog w) a S n)
    (hq : Q (.bool (S k)) { s with toks := s.toks + 1 }) : wpAny (model prog w) A (call (.ref B) [.str k tk]) Q E s := by
  refine wpAny_call (codeAny_of_tree ?_)
  show wpAny _ A.in1 (callAny (.ref B) ⟨[.str k tk], []⟩) _ _ s
  simp only [callAny]
  refine wpAny_bind (wpAny_load hB ?_)
  have hcond : (Value.type "builtin_function_or_method" == Value.type "method" || Value.type "builtin_function_or_method" == Value.type "builtin_function_or_method" || Value.type "builtin_function_or_method" == Value.type "method-wrapper") = true := by decide +kernel
  have hkey : (strKind prog w).is k (.str k tk) = true := by show Value.isStrOf k (.str k tk) = true; simp [Value.isStrOf]
  simp only [hcond]
  rw [if_pos trivial]
  refine wpAny_ite_split (fun _ => ?_) (fun h => absurd (by decide) h)
  refine wpAny_bind (check_sc hS ?_)
  refine wpAny_pure ⟨plainId_quiet F.slot_set_contains.plain _, codeAny_builtin entry_set_contains ?_⟩
  rw [Around.under_plainId F.slot_set_contains.plain _]
  unfold Builtin.«frozenset.__contains__» Builtin.Frozenset.oneOther
  simp only [List.isEmpty_nil, bind_assoc]
  unfold Builtin.Frozenset.addrOf Builtin.Frozenset.withSetAsKey setContains
  refine wpAny_bind (wpAny_pure ?_)
  try dsimp only
  refine wpAny_bind (wpAny_pure ?_)
  try dsimp only
  refine wpAny_bind (wpAny_tryCatch ?_)
  refine wpAny_holding ?_
  refine wpAny_bind ((strKind prog w).pyHash hkey ?_)
  refine wpAny_bind (wpAny_setFind_of (s := { s with toks := s.toks + 1 }) hkey rfl hS fun r hr => ?_)
  refine wpAny_pure ?_
  show wpAny _ _ (ret (Value.bool r.isSome)) _ _ _
  rw [hr]
  exact wpAny_pure hq
end
end Mine
namespace Mine
open PySem.Builtin PySem.Spec

theorem slot_filter_next : Slot "filter" "__next__" "filter.__next__" :=
  .of (owner := "filter") (n := "__next__") (by rw [typeLookup_type, builtinLookup_eq_fast]; kernel_rfl) (by decide +kernel) (by decide +kernel) (by decide +kernel)
    (by first | exact .inl (by decide +kernel) | exact .inr (by decide +kernel)) (by rw [isSubtype_type]; kernel_rfl)
theorem slot_filter_iter : Slot "filter" "__iter__" "filter.__iter__" :=
  .of (owner := "filter") (n := "__iter__") (by rw [typeLookup_type, builtinLookup_eq_fast]; kernel_rfl) (by decide +kernel) (by decide +kernel) (by decide +kernel)
    (by first | exact .inl (by decide +kernel) | exact .inr (by decide +kernel)) (by rw [isSubtype_type]; kernel_rfl)
theorem slot_filter_init : Slot "filter" "__init__" "object.__init__" :=
  .of (owner := "object") (n := "__init__") (by rw [typeLookup_type, builtinLookup_eq_fast]; kernel_rfl) (by decide +kernel) (by decide +kernel) (by decide +kernel)
    (by first | exact .inl (by decide +kernel) | exact .inr (by decide +kernel)) (by rw [isSubtype_type]; kernel_rfl)
theorem entry_filter_next : entryFor table "filter.__next__" = some Builtin.«filter.__next__» := entryFor_of_tree (by kernel_rfl)
theorem entry_filter_new : entryFor table "filter.__new__" = some Builtin.«filter.__new__» := entryFor_of_tree (by kernel_rfl)
theorem plain_filter_next : plainId "filter.__next__" = true := by decide +kernel
theorem args_filter_next_1 (a : Value) : argsOk "filter.__next__" ⟨[a], []⟩ := by unfold argsOk; kernel_rfl
theorem args_filter_iter_1 (a : Value) : argsOk "filter.__iter__" ⟨[a], []⟩ := by unfold argsOk; kernel_rfl
theorem mro_filter : mroOf (.type "filter") = pure [.type "filter", .type "object"] := by rw [mroOf_type]; kernel_rfl
theorem lookup_filter_new : typeLookup (.type "filter") "__new__" = pure (some (.builtin "filter.__new__")) := by rw [typeLookup_type, builtinLookup_eq_fast]; kernel_rfl
theorem sub_filter : isSubtype (.type "filter") (.type "filter") = pure true := by rw [isSubtype_type]; kernel_rfl
theorem called_filter : TypeCalled "filter" "filter.__new__" "object.__init__" :=
  ⟨by decide +kernel, by decide +kernel, ⟨_, _, mro_filter⟩, madeBy_type mro_filter lookup_filter_new (by decide +kernel), by decide +kernel, by rw [isSubtype_type]; kernel_rfl, slot_filter_init⟩
theorem typeCall_filter_2 (a b : Value) : checkTypeCall "filter" ⟨[a, b], []⟩ = pure () := by kernel_rfl
theorem newCall_filter_2 (a b : Value) : checkBuiltinCall "filter.__new__" ⟨[.type "filter", a, b], []⟩ = pure () := by kernel_rfl
theorem filter_no_len : typeLookup (.type "filter") "__len__" = pure none := by rw [typeLookup_type, builtinLookup_eq_fast]; kernel_rfl
theorem filter_no_hint : typeLookup (.type "filter") "__length_hint__" = pure none := by rw [typeLookup_type, builtinLookup_eq_fast]; kernel_rfl
theorem entry_filter_iter : entryFor table "filter.__iter__" = some Builtin.«dict_keyiterator.__iter__» :=
  entryFor_alias (id' := "dict_keyiterator.__iter__") (by kernel_rfl) (by first | rfl | decide +kernel | (unfold String.splitOn; simp +decide [String.splitOnAux])) (by decide +kernel) (by kernel_rfl)

abbrev IsFilter (h : Heap) (e it : Addr) (f : Value) : Prop :=
  h.get? e = some { cls := .type "filter", dict := none, data := .fields #[f, .ref it], slots := #[] }

section
variable {prog : Program} {w : World} {A : Around} {E : Value → Shared → Prop} {s : Shared}
theorem pyIter_filter {e it : Addr} {f : Value} {Q : Value → Shared → Prop} (he : IsFilter s.heap e it f) (h : Q (.ref e) s) : wpAny (model prog w) A (pyIter (.ref e)) Q E s := by
  have hT : s.TypeIs (.ref e) "filter" := ⟨_, he, rfl⟩
  refine wpAny_pyIter_slot hT slot_filter_iter (wpAny_call_entry slot_filter_iter hT entry_filter_iter ?_ (args_filter_iter_1 _))
  show wpAny _ _ (ret (.ref e)) _ _ s
  exact wpAny_pure ⟨_, rfl, "filter", _, hT, slot_filter_next.lookup, h⟩

theorem meets_filter_new (f : Value) (l : Addr) (items : Array Value) :
    Meets (Builtin.«filter.__new__» ⟨[.type "filter", f, .ref l], []⟩) (fun _ R s => s.heap.IsList l items ∧
      R (.ok (.ret (.ref (s.heap.objs.size + 1))))
        { s with heap := (s.heap.push { cls := .type "list_iterator", data := .fields #[.ref l, .int 0 0] }).push { cls := .type "filter", data := .fields #[f, .ref s.heap.objs.size] } }) :=
  .of_wp fun prog w A R s h => by
    obtain ⟨hp, g, d, tk, os⟩ := s; obtain ⟨hl, h⟩ := h
    have hsub := sub_filter
    wp_walk using wpAny_pyIter_list hl
    exact ⟨_, rfl, by simpa [Heap.size_push] using h⟩
theorem call_filter_list {f : Value} {l : Addr} {items : Array Value} {Q : Value → Shared → Prop} (hL : s.heap.IsList l items)
    (h : ∀ h', IsFilter h' (s.heap.objs.size + 1) s.heap.objs.size f → h'.IsListIter s.heap.objs.size l 0 → h'.objs.size = s.heap.objs.size + 2 → (∀ b o, s.heap.get? b = some o → h'.get? b = some o) → Q (.ref (s.heap.objs.size + 1)) { s with heap := h' }) :
    wpAny (model prog w) A (call (.type "filter") [f, .ref l]) Q E s := by
  refine callType_new called_filter (by decide) (typeCall_filter_2 _ _) (newCall_filter_2 _ _) (fun obj => args_object_init_3 obj _ _) entry_filter_new
    (meets_filter_new f l items) ⟨hL, ?_⟩
  have z1 : (s.heap.push { cls := .type "list_iterator", data := .fields #[.ref l, .int 0 0] }).objs.size = s.heap.objs.size + 1 := Heap.size_push ..
  have he : IsFilter ((s.heap.push { cls := .type "list_iterator", data := .fields #[.ref l, .int 0 0] }).push { cls := .type "filter", data := .fields #[f, .ref s.heap.objs.size] }) (s.heap.objs.size + 1) s.heap.objs.size f := by
    have := Heap.get?_push_size (s.heap.push { cls := .type "list_iterator", data := .fields #[.ref l, .int 0 0] }) (o := { cls := .type "filter", data := .fields #[f, .ref s.heap.objs.size] }) rfl
    rw [z1] at this; exact this
  refine ⟨⟨_, he, rfl⟩, h _ he ⟨_, Heap.get?_push_of_some _ (Heap.get?_push_size _ rfl), rfl, rfl⟩ (by rw [Heap.size_push, z1]) fun b o x => Heap.get?_push_of_some _ (Heap.get?_push_of_some _ x)⟩
end
end Mine
namespace Mine
open PySem.Builtin PySem.Spec

section
variable {prog : Program} {w : World} {A : Around} {E : Value → Shared → Prop} {s : Shared}
theorem cs_item {it l : Addr} {i : Nat} {items} {x : Value} {Q : Option Value → Shared → Prop} (hit : s.heap.IsListIter it l i)
    (hl : s.heap.IsList l items) (hx : items[i]? = some x) (hQ : ∀ h', h'.IsListIter it l (i + 1) → Heap.SameBut it s.heap h' → Q (some x) { s with heap := h' }) :
    wpAny (model prog w) A (callSpecial? (.ref it) "__next__") Q E s := by
  obtain ⟨o, ho, hc, hd⟩ := id hit
  obtain ⟨ol, hol, _, nl, hdl⟩ := hl
  refine wpAny_callSpecial?_slot (name := Str.ofString "__next__") hit.typeIs slot_listiter_next (wpAny_call_entry slot_listiter_next hit.typeIs entry_listiter_next ?_ (args_listiter_next _))
  show wpAny _ _ (field (.ref it) 0 >>= _) _ _ s
  refine wpAny_bind (wpAny_field ho hd (x := .ref l) rfl ?_)
  show wpAny _ _ (if (Value.ref l == Value.none) = true then _ else _) _ _ s
  rw [if_neg (show ¬ ((Value.ref l == Value.none) = true) from Bool.false_ne_true)]
  show wpAny _ _ (field (.ref it) 1 >>= _) _ _ s
  refine wpAny_bind (wpAny_field ho hd (x := .int i 0) rfl ?_)
  show wpAny _ _ (seqItems? (.ref l) >>= _) _ _ s
  refine wpAny_bind (wpAny_seqItems hol hdl ?_)
  simp only [Int.toNat_natCast, hx]
  refine wpAny_bind (wpAny_setField ho hd (by simp) (wpAny_pure ⟨x, rfl, hQ _ ?_ (Heap.SameBut.update ..)⟩))
  exact ⟨_, Heap.get?_update_self _ ho (Obj.isFreed_of_fields (Obj.data_mapFields hd _)), (Obj.cls_mapFields ..).trans hc, by
    rw [Obj.data_mapFields hd]; simp [rawInt]⟩
theorem cs_end {it l : Addr} {i : Nat} {items} {Q : Option Value → Shared → Prop} (hh : A.handled = none) (hit : s.heap.IsListIter it l i) (hl : s.heap.IsList l items) (hx : items[i]? = none)
    (hE : ∀ h' e, Heap.ExtBut it s.heap h' → (∃ o, h'.get? e = some o ∧ o.cls = .type "StopIteration") → E (.ref e) { s with heap := h' }) : wpAny (model prog w) A (callSpecial? (.ref it) "__next__") Q E s := by
  obtain ⟨o, ho, hc, hd⟩ := id hit
  obtain ⟨ol, hol, _, nl, hdl⟩ := hl
  refine wpAny_callSpecial?_slot (name := Str.ofString "__next__") hit.typeIs slot_listiter_next (wpAny_call_entry slot_listiter_next hit.typeIs entry_listiter_next ?_ (args_listiter_next _))
  show wpAny _ _ (field (.ref it) 0 >>= _) _ _ s
  refine wpAny_bind (wpAny_field ho hd (x := .ref l) rfl ?_)
  show wpAny _ _ (if (Value.ref l == Value.none) = true then _ else _) _ _ s
  rw [if_neg (show ¬ ((Value.ref l == Value.none) = true) from Bool.false_ne_true)]
  show wpAny _ _ (field (.ref it) 1 >>= _) _ _ s
  refine wpAny_bind (wpAny_field ho hd (x := .int i 0) rfl ?_)
  show wpAny _ _ (seqItems? (.ref l) >>= _) _ _ s
  refine wpAny_bind (wpAny_seqItems hol hdl ?_)
  simp only [Int.toNat_natCast, hx]
  refine wpAny_bind (wpAny_rule (wpAny_bind (wpAny_setField ho hd (by simp) ?_)))
  show wpAny _ _ (newExc (.type "StopIteration") [] >>= _) _ _ _
  refine wpAny_bind ?_
  simp only [newExc, newTuple]
  refine wpAny_bind (wpAny_newObj_type ?_ (by size_fits))
  refine wpAny_bind (m := firstArgMember _ _) (wpAny_of_eq (a := Value.none) (by first | rfl | (simp only [firstArgMember]; rfl)) ?_)
  refine wpAny_newObj_type ?_ (by size_fits)
  simp only [raiseNew]
  refine wpAny_bind (wpAny_handled ?_)
  first | rw [show A.in1.handled = none from hh] | rw [hh]
  refine wpAny_bind (wpAny_pure (wpAny_throw ?_))
  exact hE _ _ (((Heap.SameBut.update ..).extBut.push _).push _) ⟨_, Heap.get?_push_size _ rfl, rfl⟩
end

section
variable {prog : Program} {w : World} {A : Around}
theorem filter_run {e it l B : Addr} {vs : List Value} {ss : List Str} {pz : Str → Bool} {base : Heap} (h1 : e ≠ it) (h3 : l ≠ it) (hi : StrsAre vs ss) (hb : base.objs.size ≤ it) (hh : A.handled = none)
    (hf : ∀ x t (s : Shared) (Q : Value → Shared → Prop) (E : Value → Shared → Prop), base.StaysIn s.heap → (∀ tk, Q (.bool (pz x)) { s with toks := tk }) → wpAny (model prog w) A.in1 (call (.ref B) [.str x t]) Q E s) :
    ∀ (k p : Nat) (s : Shared) (R : Result → Shared → Prop), ss.length - p = k → p ≤ ss.length → base.StaysIn s.heap → IsFilter s.heap e it (.ref B) → s.heap.IsListIter it l p → s.heap.IsList l vs.toArray →
      (∀ q x t h' tk, p ≤ q → ss[q]? = some x → pz x = true → ((ss.drop p).take (q - p)).filter pz = [] → (∀ b o, b ≠ it → s.heap.get? b = some o → h'.get? b = some o) → h'.IsListIter it l (q + 1) → R (.ok (.ret (.str x t))) { s with heap := h', toks := tk }) →
      ((ss.drop p).filter pz = [] → ∀ h' tk ex, (∀ b o, b ≠ it → s.heap.get? b = some o → h'.get? b = some o) → (∃ o, h'.get? ex = some o ∧ o.cls = .type "StopIteration") → R (.error (.ref ex)) { s with heap := h', toks := tk }) →
      wpAny (model prog w) A.in1 (Builtin.«filter.__next__» ⟨[.ref e], []⟩) (fun fin s' => match fin with | .done f => R (.ok f) s' | .again c' => c'.quiet = true ∧ codeAny (model prog w) A c' R s') (fun x s' => R (.error x) s') s := by
  intro k
  induction k with
  | zero =>
    intro p s R hk hp st he hit hl _ hR
    have hpe : p = ss.length := by omega
    subst hpe
    show wpAny _ _ (field (.ref e) 0 >>= _) _ _ _
    refine wpAny_bind (wpAny_field he rfl (x := .ref B) rfl ?_)
    show wpAny _ _ (field (.ref e) 1 >>= _) _ _ _
    refine wpAny_bind (wpAny_field he rfl (x := .ref it) rfl ?_)
    refine wpAny_bind (cs_end (show A.in1.handled = none from hh) hit hl (by simp [hi.length]) fun h' ex hext hx => ?_)
    exact hR (by simp) h' s.toks ex (fun b o hb e => hext b o hb e) hx
  | succ k ih =>
    intro p s R hk hp st he hit hl hQ hR
    have hlt : p < ss.length := by omega
    have hx : ss[p]? = some ss[p] := List.getElem?_eq_getElem hlt
    obtain ⟨t, hv⟩ := hi.get p _ hx
    show wpAny _ _ (field (.ref e) 0 >>= _) _ _ _
    refine wpAny_bind (wpAny_field he rfl (x := .ref B) rfl ?_)
    show wpAny _ _ (field (.ref e) 1 >>= _) _ _ _
    refine wpAny_bind (wpAny_field he rfl (x := .ref it) rfl ?_)
    refine wpAny_bind (cs_item hit hl (by simpa using hv) fun h₁ hit₁ hs₁ => ?_)
    have ext : ∀ b o, b ≠ it → s.heap.get? b = some o → h₁.get? b = some o := fun b o hb e => hs₁.extBut b o hb e
    have st₁ : base.StaysIn h₁ := fun b o e => ext b o (fun h => absurd (Heap.lt_size e) (by rw [h]; exact Nat.not_lt.mpr hb)) (st b o e)
    try dsimp only
    refine wpAny_bind (wpAny_holding ?_)
    rw [if_neg (show ¬ ((Value.ref B == Value.none || Value.ref B == Value.type "bool") = true) from Bool.false_ne_true)]
    refine wpAny_bind (hf _ _ _ _ _ st₁ fun tk => ?_)
    refine wpAny_holding (wpAny_truthy_bool ?_)
    have hdrop : ss.drop p = ss[p] :: ss.drop (p + 1) := List.drop_eq_getElem_cons hlt
    cases hz : pz ss[p] with
    | true =>
      rw [if_pos rfl]
      exact wpAny_pure (hQ p _ t h₁ tk (Nat.le_refl _) hx hz (by simp) ext hit₁)
    | false =>
      rw [if_neg Bool.false_ne_true]
      refine wpAny_pure ⟨plainId_quiet plain_filter_next _, codeAny_builtin entry_filter_next ?_⟩
      rw [Around.under_plainId plain_filter_next _]
      refine ih (p + 1) { s with heap := h₁, toks := tk } R (by omega) hlt st₁ (ext e _ h1 he) hit₁ (hl.at fun o e => ext l _ h3 e) (fun q x t h' tk' hq hx' hz' hnone hext hit' => ?_) (fun hnone h' tk' ex hext hxx => ?_)
      · refine hQ q x t h' tk' (by omega) hx' hz' ?_ (fun b o hb e => hext b o hb (ext b o hb e)) hit'
        rw [hdrop, show q - p = (q - (p + 1)) + 1 by omega, List.take_succ_cons, List.filter_cons, hz]
        exact hnone
      · refine hR ?_ h' tk' ex (fun b o hb e => hext b o hb (ext b o hb e)) hxx
        rw [hdrop, List.filter_cons, hz]; exact hnone

theorem filter_next {e it l B : Addr} {vs : List Value} {ss : List Str} {pz : Str → Bool} {base : Heap} {p : Nat} {s : Shared} {Q : Option Value → Shared → Prop} {E : Value → Shared → Prop} (h1 : e ≠ it) (h3 : l ≠ it) (hi : StrsAre vs ss) (hb : base.objs.size ≤ it) (hh : A.handled = none)
    (hf : ∀ x t (s : Shared) (Q : Value → Shared → Prop) (E : Value → Shared → Prop), base.StaysIn s.heap → (∀ tk, Q (.bool (pz x)) { s with toks := tk }) → wpAny (model prog w) A.in1 (call (.ref B) [.str x t]) Q E s)
    (hp : p ≤ ss.length) (st : base.StaysIn s.heap) (he : IsFilter s.heap e it (.ref B)) (hit : s.heap.IsListIter it l p) (hl : s.heap.IsList l vs.toArray)
    (hQ : ∀ q x t h' tk, p ≤ q → ss[q]? = some x → pz x = true → ((ss.drop p).take (q - p)).filter pz = [] → (∀ b o, b ≠ it → s.heap.get? b = some o → h'.get? b = some o) → h'.IsListIter it l (q + 1) → Q (some (.str x t)) { s with heap := h', toks := tk })
    (hE : (ss.drop p).filter pz = [] → ∀ h' tk ex, (∀ b o, b ≠ it → s.heap.get? b = some o → h'.get? b = some o) → (∃ o, h'.get? ex = some o ∧ o.cls = .type "StopIteration") → E (.ref ex) { s with heap := h', toks := tk }) :
    wpAny (model prog w) A (callSpecial? (.ref e) "__next__") Q E s := by
  have hT : s.TypeIs (.ref e) "filter" := ⟨_, he, rfl⟩
  refine wpAny_callSpecial?_slot (name := Str.ofString "__next__") hT slot_filter_next ?_
  refine wpAny_call ?_
  refine codeAny_call_builtin (R := wants (fun v => Q (some v)) E) slot_filter_next.plain entry_filter_next (slot_filter_next.check _ _ _ _ _ _ _ _ hT (args_filter_next_1 _) ?_)
  exact filter_run h1 h3 hi hb hh hf _ p s (wants (fun v => Q (some v)) E) rfl hp st he hit hl hQ hE

theorem take_filter_len {ss : List Str} {pz : Str → Bool} {p q : Nat} {x : Str} (hp : p ≤ q) (hx : ss[q]? = some x) (hz : pz x = true) (hn : ((ss.drop p).take (q - p)).filter pz = []) : (ss.take (q + 1)).filter pz = (ss.take p).filter pz ++ [x] := by
  have e : ss.take q = ss.take p ++ (ss.drop p).take (q - p) := by
    conv => lhs; rw [show q = p + (q - p) by omega]
    rw [List.take_add]
  rw [List.take_add_one, hx, List.filter_append, e, List.filter_append, hn, List.append_nil]
  simp [hz]
theorem filter_take_pre {ss : List Str} {pz : Str → Bool} (q : Nat) : ∃ r, ss.filter pz = (ss.take q).filter pz ++ r := by
  refine ⟨(ss.drop q).filter pz, ?_⟩
  rw [← List.filter_append, List.take_append_drop]

theorem Walks_filter (hh : A.handled = none) {base : Heap} (e it l B : Addr) {vs : List Value} {ss : List Str} (pz : Str → Bool) (hi : StrsAre vs ss) (h1 : e ≠ it) (h3 : l ≠ it) (hb : base.objs.size ≤ it)
    (hf : ∀ x t (s : Shared) (Q : Value → Shared → Prop) (E : Value → Shared → Prop), base.StaysIn s.heap → (∀ tk, Q (.bool (pz x)) { s with toks := tk }) → wpAny (model prog w) A.in1 (call (.ref B) [.str x t]) Q E s) :
    Walks prog w A e ([e, it, l] ++ List.range base.objs.size) [it] (ss.filter pz).length (fun i v => ∃ x t, (ss.filter pz)[i]? = some x ∧ v = .str x t)
      (fun i h => base.StaysIn h ∧ IsFilter h e it (.ref B) ∧ h.IsList l vs.toArray ∧ ∃ p, p ≤ ss.length ∧ h.IsListIter it l p ∧ ((ss.take p).filter pz).length = i) where
  sub := fun b hb => by simp at hb; simp [hb]
  frame := fun i h h' ⟨st, a, d, p, hp, c, hl⟩ hk => ⟨fun b o e => hk b (by have := Heap.lt_size e; simp; right; right; right; exact this) o (st b o e), hk e (by simp) _ a, d.at fun o e => hk l (by simp) o e, p, hp, c.at fun o e => hk it (by simp) o e, hl⟩
  item := fun i s Q E hlt ⟨st, he, hl, p, hp, hit, hpi⟩ hQ => by
    have hT : s.TypeIs (.ref e) "filter" := ⟨_, he, rfl⟩
    unfold pyNext
    refine wpAny_bind (wpAny_attempt (filter_next h1 h3 hi hb hh hf hp st he hit hl (fun q x t h' tk hq hx hz hn hext hit' => ?_) (fun hn h' tk ex hext hx => ?_)))
    · have htk := take_filter_len hq hx hz hn
      refine wpAny_pure (hQ _ h' tk ⟨x, t, ?_, rfl⟩ ⟨fun b o e => hext b o (fun h => absurd (Heap.lt_size e) (by rw [h]; exact Nat.not_lt.mpr hb)) (st b o e), hext e _ h1 he, hl.at fun o e => hext l _ h3 e, q + 1, (List.getElem?_eq_some_iff.mp hx).1, hit', by rw [htk, List.length_append, hpi]; rfl⟩ fun b o hb e => hext b o (fun h => hb (by simp [h])) e)
      obtain ⟨r, hr⟩ := filter_take_pre (ss := ss) (pz := pz) (q + 1)
      rw [hr, htk, List.append_assoc, List.getElem?_append_right (by omega), hpi, Nat.sub_self]; rfl
    · exfalso
      have : (ss.filter pz).length = i := by
        conv => lhs; rw [← List.take_append_drop p ss, List.filter_append, hn, List.append_nil]
        exact hpi
      omega
  done := fun s Q E ⟨st, he, hl, p, hp, hit, hpi⟩ hQ => by
    have hT : s.TypeIs (.ref e) "filter" := ⟨_, he, rfl⟩
    unfold pyNext
    refine wpAny_bind (wpAny_attempt (filter_next h1 h3 hi hb hh hf hp st he hit hl (fun q x t h' tk hq hx hz hn hext hit' => ?_) (fun hn h' tk ex hext hx => ?_)))
    · exfalso
      have htk := take_filter_len hq hx hz hn
      obtain ⟨r, hr⟩ := filter_take_pre (ss := ss) (pz := pz) (q + 1)
      have := congrArg List.length hr
      rw [htk, List.length_append, List.length_append, hpi] at this
      simp at this
      omega
    · obtain ⟨o, ho, hc⟩ := hx
      refine wpAny_bind (wpAny_isInstance (T := "StopIteration") (b := true) ⟨o, ho, hc⟩ isSubtype_stop ?_)
      exact wpAny_pure (hQ h' tk fun b o hb e => hext b o (fun h => hb (by simp [h])) e)
  self := fun _ _ _ _ ⟨_, he, _⟩ hQ => pyIter_filter he hQ
end
end Mine
namespace Mine
open PySem.Builtin PySem.Spec

theorem setOf_keep {prog : Program} {w : World} {h h' : Heap} {a : Addr} {S : Str → Bool} {n : Nat} (hS : h.SetOf (strKind prog w) a S n) (k : h.StaysIn h') : h'.SetOf (strKind prog w) a S n :=
  let ⟨o, es, ep, t, ho, r⟩ := hS; ⟨o, es, ep, t, k _ _ ho, r⟩
theorem strs_of_filter {acc : Array Value} {ss : List Str} (h : ItemsOf (fun i v => ∃ x t, ss[i]? = some x ∧ v = .str x t) acc ss.length) : StrsAre acc.toList ss := by
  obtain ⟨hsz, hi⟩ := h
  obtain ⟨l⟩ := acc
  simp only [List.size_toArray] at hsz
  have hi' : ∀ (j : Nat) (v : Value), l[j]? = some v → ∃ x t, ss[j]? = some x ∧ v = .str x t := fun j v e => hi j v (by simpa using e)
  clear hi
  induction l generalizing ss with
  | nil => cases ss with | nil => exact .nil | cons y ss => simp at hsz
  | cons v l ih =>
    cases ss with
    | nil => simp at hsz
    | cons y ss =>
      obtain ⟨x, t, e1, e2⟩ := hi' 0 v rfl
      cases e1
      subst e2
      exact .cons _ _ (ih (by simpa using hsz) fun j v e => by simpa using hi' (j + 1) v (by simpa using e))

section
variable {prog : Program} {w : World} {A : Around} {E : Value → Shared → Prop} {s : Shared}
/-- list(filter(set.__contains__, texts)) -/
theorem call_list_filter {base : Heap} {e it l B a : Addr} {vs : List Value} {ss : List Str} {S : Str → Bool} {n : Nat} {Q : Value → Shared → Prop} (hh : A.handled = none) (hB : base.get? B = some (bound a)) (hS : base.SetOf (strKind prog w) a S n)
    (he : IsFilter s.heap e it (.ref B)) (hit : s.heap.IsListIter it l 0) (hl : s.heap.IsList l vs.toArray) (hi : StrsAre vs ss) (st : base.StaysIn s.heap) (h1 : e ≠ it) (h3 : l ≠ it) (hb : base.objs.size ≤ it) (hn : ss.length ≤ 100000)
    (hQ : ∀ h' tk ys c, (∀ b o, b ≠ it → s.heap.get? b = some o → h'.get? b = some o) → h'.get? s.heap.objs.size = some (W.listOf (List.toArray ys) c) → StrsAre ys (ss.filter S) → Q (.ref s.heap.objs.size) { s with heap := h', toks := tk }) :
    wpAny (model prog w) A (call (.type "list") [.ref e]) Q E s := by
  refine call_list_iter filter_no_len filter_no_hint (by decide) (by decide) (Walks_filter (A := A.in1.in1) hh (base := base) e it l B S hi h1 h3 hb (fun x t s Q E st hq => ?_)) (fun i h st => ⟨_, st.2.1, rfl⟩) ⟨st, he, hl, 0, Nat.zero_le _, hit, rfl⟩ ?_ (by simp) ?_ ?_
  · exact call_bound (st _ _ hB) (setOf_keep hS st) (hq _)
  · intro b hb'
    simp only [List.mem_append, List.mem_cons, List.mem_range, List.not_mem_nil, or_false] at hb'
    obtain ⟨ol, hol, _⟩ := hl
    obtain ⟨oi, hoi, _⟩ := hit
    rcases hb' with (rfl | rfl | rfl) | hb'
    · exact Heap.lt_size he
    · exact Heap.lt_size hoi
    · exact Heap.lt_size hol
    · exact Nat.lt_trans (Nat.lt_of_lt_of_le hb' hb) (Heap.lt_size hoi)
  · intro h' tk acc c hk hS' hacc
    have := strs_of_filter hacc
    refine hQ h' tk acc.toList c (fun b o hb e => hk b o (by simp [hb]) e) ?_ this
    rw [Array.toArray_toList]; exact hS'
  · rw [sizeLine_eq]
    have := List.length_filter_le S ss
    omega
theorem getattr_contains' {a : Addr} {S : Str → Bool} {n : Nat} {Q : Value → Shared → Prop} (hS : s.heap.SetOf (strKind prog w) a S n)
    (hq : ∀ h' tk B, s.heap.StaysIn h' → h'.get? B = some (bound a) → s.heap.get? B = none → h'.objs.size = s.heap.objs.size + 1 → Q (.ref B) { s with heap := h', toks := tk }) : wpAny (model prog w) A (getAttr (.ref a) (Str.ofString "__contains__") true) Q E s := by
  refine getattr_contains hS (hq _ _ _ (fun b o e => Heap.get?_push_of_some _ e) (Heap.get?_push_size _ rfl) ?_ (Heap.size_push ..))
  cases q : s.heap.get? s.heap.objs.size with
  | none => rfl
  | some o => exact absurd (Heap.lt_size q) (Nat.lt_irrefl _)
end
end Mine
namespace Mine
open PySem.Builtin

/-- an entry's own fields -/
abbrev entD (P : Params) (t1 t2 t3 t4 : Tok) (ua rl : Addr) (de ra : Value) : Obj :=
  dictOf [⟨PyData.keyHash P (Str.ofString "useragents"), .str (Str.ofString "useragents") t1, .ref ua⟩, ⟨PyData.keyHash P (Str.ofString "rulelines"), .str (Str.ofString "rulelines") t2, .ref rl⟩,
    ⟨PyData.keyHash P (Str.ofString "delay"), .str (Str.ofString "delay") t3, de⟩, ⟨PyData.keyHash P (Str.ofString "req_rate"), .str (Str.ofString "req_rate") t4, ra⟩] 4
structure Ent (P : Params) (h : Heap) (a dx ua rl : Addr) (vs rs : List Value) (de ra : Value) (t1 t2 t3 t4 : Tok) (n m : Nat) : Prop where
  at_ : h.get? a = some (instObj 59 dx)
  dict : h.get? dx = some (entD P t1 t2 t3 t4 ua rl de ra)
  uas : h.get? ua = some (W.listOf vs.toArray n)
  rls : h.get? rl = some (W.listOf rs.toArray m)
theorem Ent.keep {P : Params} {h h' : Heap} {a dx ua rl : Addr} {vs rs : List Value} {de ra : Value} {t1 t2 t3 t4 : Tok} {n m : Nat} (e : Ent P h a dx ua rl vs rs de ra t1 t2 t3 t4 n m) (k : ∀ b o, h.get? b = some o → h'.get? b = some o) : Ent P h' a dx ua rl vs rs de ra t1 t2 t3 t4 n m :=
  ⟨k _ _ e.at_, k _ _ e.dict, k _ _ e.uas, k _ _ e.rls⟩
theorem Ent.inst {P : Params} {h : Heap} {a dx ua rl : Addr} {vs rs : List Value} {de ra : Value} {t1 t2 t3 t4 : Tok} {n m : Nat} (e : Ent P h a dx ua rl vs rs de ra t1 t2 t3 t4 n m) : InstAt h a (instObj 59 dx) 59 (some (entD P t1 t2 t3 t4 ua rl de ra)) :=
  ⟨e.at_, rfl, rfl, e.dict⟩
theorem inst_keep {h h' : Heap} {L a : Addr} {m : Str → Option Value} {ox : Obj} {C : Addr} {od : Option Obj} (I : InstAt h a ox C od) (F : Fr h L h' m) : InstAt h' a ox C od := by
  obtain ⟨a1, a2, a3, a4⟩ := I
  refine ⟨F.keep _ _ a1, a2, a3, ?_⟩
  cases h1 : ox.dict <;> cases od <;> rw [h1] at a4 <;> first | exact a4 | exact F.keep _ _ a4
theorem news_fresh {h₀ h h' : Heap} {L D : Addr} {m : Str → Option Value} {o : Obj} (F : Fr h₀ L h m) (hn : h.get? D = none) (hg : h'.get? D = some o) : h'.get? (D, o).1 = some (D, o).2 ∧ (D, o).1 ≠ L ∧ h₀.get? (D, o).1 = none := by
  refine ⟨hg, ?_, ?_⟩
  · rintro rfl
    obtain ⟨o, _, _, ho, _⟩ := F.ns
    rw [hn] at ho; cases ho
  · cases q2 : h₀.get? D with
    | none => rfl
    | some o => have := F.keep _ _ q2; rw [hn] at this; cases this
theorem news_push {h₀ h : Heap} {L a : Addr} {o : Obj} {r : List (Addr × Obj)} (h1 : h.get? (a, o).1 = some (a, o).2 ∧ (a, o).1 ≠ L ∧ h₀.get? (a, o).1 = none) (N : News h₀ L h r) : News h₀ L h ((a, o) :: r) := by
  intro q hq
  rcases List.mem_cons.mp hq with rfl | hq
  · exact h1
  · exact N q hq
theorem kept_fr {h₀ h h' : Heap} {L : Addr} {m : Str → Option Value} (hF : Fr h₀ L h m) (k : ∀ b o, h.get? b = some o → h'.get? b = some o) : Fr h₀ L h' m :=
  ⟨hF.ns.at' fun o e => k L o e, fun b o e => k b o (hF.keep b o e), hF.above⟩
theorem kept_news {h₀ h h' : Heap} {L : Addr} {news : List (Addr × Obj)} (hN : News h₀ L h news) (k : ∀ b o, h.get? b = some o → h'.get? b = some o) : News h₀ L h' news :=
  fun p hp => ⟨k _ _ (hN p hp).1, (hN p hp).2⟩
/-- a fresh entry onto the ledger -/
theorem news_ent {P : Params} {h₀ h h' : Heap} {L a dx ua rl : Addr} {m : Str → Option Value} {vs rs : List Value} {de ra : Value} {t1 t2 t3 t4 : Tok} {n k : Nat} {news : List (Addr × Obj)} (F : Fr h₀ L h m) (N : News h₀ L h news) (st : h.StaysIn h')
    (h1 : h.get? a = none) (h2 : h.get? dx = none) (h3 : h.get? ua = none) (h4 : h.get? rl = none) (e : Ent P h' a dx ua rl vs rs de ra t1 t2 t3 t4 n k) :
    News h₀ L h' ((rl, W.listOf rs.toArray k) :: (ua, W.listOf vs.toArray n) :: (a, instObj 59 dx) :: (dx, entD P t1 t2 t3 t4 ua rl de ra) :: news) :=
  news_push (news_fresh F h4 e.rls) (news_push (news_fresh F h3 e.uas) (news_push (news_fresh F h1 e.at_) (news_push (news_fresh F h2 e.dict) (kept_news N st))))
theorem fr_as {h₀ h : Heap} {L : Addr} {m m' : Str → Option Value} (F : Fr h₀ L h m) (e : m = m') : Fr h₀ L h m' := e ▸ F
end Mine
set_option maxHeartbeats 8000000 in
open_top hd6 for PySem.Challenge.rw_kn0088_06
namespace Mine
open PySem.Builtin PyProof.V PySem.Spec
section
variable {prog : Program} {w : World} {A : Around} {E : Value → Shared → Prop} {s : Shared} {env : Env} {h₀ : Heap} {x : Str} {body : List Stmt} {Q : Flow → Shared → Prop}
theorem over_head {x : Str} {cs : List Str} {v : Value} {m₁ m₀ : Str → Option Value} (hm : ∀ y, y ∉ x :: cs → m₁ y = m₀ y) : (fun y => if y = x then some v else m₁ y) = fun y => if y = x then some v else overs cs m₁ m₀ y := by
  have e1 := overs_eq hm
  funext y
  by_cases hy : y = x
  · simp [hy]
  · simp only [if_neg hy]
    rw [e1]
    show (if y = x then m₁ x else overs cs m₁ m₀ y) = overs cs (overs (x :: cs) m₁ m₀) m₀ y
    rw [if_neg hy, ← e1]
theorem iter_seqK {D : Addr} {n : Nat} {P : Nat → Value → Prop} {St : Nat → Heap → Prop} {m₀ : Str → Option Value} {news : List (Addr × Obj)} (cs : List Str) (J : Nat → List (Addr × Obj) → Prop) {I : Addr}
    (W : Walks prog w A I [I, D] [I] n P St) (hD : env.locals ≠ D) (hI : env.locals ≠ I) (hI0 : h₀.get? I = none) (hnI : ∀ p ∈ news, p.1 ≠ I) (hst : St 0 s.heap) (hSt : ∀ i h, St i h → @LT.lt Nat _ I h.objs.size) (F : Fr h₀ env.locals s.heap m₀) (N : News h₀ env.locals s.heap news) (hj : J 0 news)
    (turn : ∀ i v u news₁ h tk own, i < n → P i v → J i news₁ → (∀ p ∈ news₁, p.1 ≠ I) → (∀ p ∈ own, p.1 = I ∨ p.1 = D) → @LT.lt Nat _ I h.objs.size → Fr h₀ env.locals h (fun y => if y = x then some v else overs cs u m₀ y) → News h₀ env.locals h (news₁ ++ own) →
      wpAny (model prog w) A (execs body env) (LoopStepV h₀ env.locals [I] own (fun m news => (∀ y, y ∉ x :: cs → m y = m₀ y) ∧ J (i + 1) news) { s with heap := h, toks := tk } (fun v s' => Q (.ret v) s') fun s' => Q .next s') E { s with heap := h, toks := tk })
    (done : ∀ u news₁ h tk, J n news₁ → Fr h₀ env.locals h (overs (x :: cs) u m₀) → News h₀ env.locals h news₁ → Q .next { s with heap := h, toks := tk }) :
    LoopAtV prog w A h₀ env x body Q E (.ref I) s := by
  refine iter_anyJ (fun i m news => (∀ y, y ∉ x :: cs → m y = m₀ y) ∧ J i news) W ?_ hI0 hnI hst hSt F N ⟨fun _ _ => rfl, hj⟩ ?_ ?_
  · intro hm
    rcases List.mem_cons.mp hm with hm | hm
    · exact hI hm
    · exact hD (List.mem_singleton.mp hm)
  · rintro i v m₁ news₁ h tk own hi hP ⟨hm, hJ⟩ hoff hown hlt F₁ N₁
    rw [over_head hm] at F₁
    refine turn i v m₁ news₁ h tk own hi hP hJ hoff (fun p hp => ?_) hlt F₁ N₁
    rcases List.mem_cons.mp (hown p hp) with e | e
    · exact .inl e
    · exact .inr (List.mem_singleton.mp e)
  · rintro m₁ news₁ h tk ⟨hm, hJ⟩ _ F₁ N₁
    rw [overs_eq hm] at F₁
    exact done m₁ news₁ h tk hJ F₁ N₁

theorem iter_listK {D : Addr} {items : Array Value} {m₀ : Str → Option Value} {news : List (Addr × Obj)} (cs : List Str) (J : Nat → List (Addr × Obj) → Prop) (hh : A.handled = none) (hl : s.heap.IsList D items) (hD : env.locals ≠ D) (F : Fr h₀ env.locals s.heap m₀) (N : News h₀ env.locals s.heap news) (hj : J 0 news)
    (turn : ∀ i v u news₁ h tk I own, i < items.size → items[i]? = some v → J i news₁ → (∀ p ∈ news₁, p.1 ≠ I) → (∀ p ∈ own, p.1 = I ∨ p.1 = D) → @LT.lt Nat _ I h.objs.size → Fr h₀ env.locals h (fun y => if y = x then some v else overs cs u m₀ y) → News h₀ env.locals h (news₁ ++ own) →
      wpAny (model prog w) A (execs body env) (LoopStepV h₀ env.locals [I] own (fun m news => (∀ y, y ∉ x :: cs → m y = m₀ y) ∧ J (i + 1) news) { s with heap := h, toks := tk } (fun v s' => Q (.ret v) s') fun s' => Q .next s') E { s with heap := h, toks := tk })
    (done : ∀ u news₁ h tk, J items.size news₁ → Fr h₀ env.locals h (overs (x :: cs) u m₀) → News h₀ env.locals h news₁ → Q .next { s with heap := h, toks := tk }) :
    wpAny (model prog w) A (pyIter (.ref D)) (fun it s₂ => LoopAtV prog w A h₀ env x body Q E it s₂) E s := by
  have lta : @LT.lt Nat _ D s.heap.objs.size := by obtain ⟨o, ho, _⟩ := hl; exact Heap.lt_size ho
  refine wpAny_pyIter_list hl ?_
  refine iter_seqK cs J (Walks.list hh s.heap.objs.size D (Nat.ne_of_lt lta) items) hD (Nat.ne_of_lt F.ns.lt) (next_is_new F) (fun p hp hI => absurd (Heap.lt_size (N p hp).1) (hI ▸ Nat.lt_irrefl _)) ⟨⟨_, Heap.get?_push_size _ rfl, rfl, rfl⟩, hl.at fun o e => Heap.get?_push_of_some _ e⟩ ?_ (F.push _) (fun p hp => ⟨Heap.get?_push_of_some _ (N p hp).1, (N p hp).2⟩) hj ?_ done
  · rintro i h ⟨⟨o, ho, _⟩, _⟩; exact Heap.lt_size ho
  · intro i v u news₁ h tk own hi hP hJ hoff hown hlt F₁ N₁
    exact turn i v u news₁ h tk _ own hi hP hJ hoff hown hlt F₁ N₁

theorem iter_tupleK {D : Addr} {items : Array Value} {m₀ : Str → Option Value} {news : List (Addr × Obj)} (cs : List Str) (J : Nat → List (Addr × Obj) → Prop) (hh : A.handled = none) (hl : s.heap.IsTuple D items) (hD : env.locals ≠ D) (F : Fr h₀ env.locals s.heap m₀) (N : News h₀ env.locals s.heap news) (hj : J 0 news)
    (turn : ∀ i v u news₁ h tk I own, i < items.size → items[i]? = some v → J i news₁ → (∀ p ∈ news₁, p.1 ≠ I) → (∀ p ∈ own, p.1 = I ∨ p.1 = D) → @LT.lt Nat _ I h.objs.size → Fr h₀ env.locals h (fun y => if y = x then some v else overs cs u m₀ y) → News h₀ env.locals h (news₁ ++ own) →
      wpAny (model prog w) A (execs body env) (LoopStepV h₀ env.locals [I] own (fun m news => (∀ y, y ∉ x :: cs → m y = m₀ y) ∧ J (i + 1) news) { s with heap := h, toks := tk } (fun v s' => Q (.ret v) s') fun s' => Q .next s') E { s with heap := h, toks := tk })
    (done : ∀ u news₁ h tk, J items.size news₁ → Fr h₀ env.locals h (overs (x :: cs) u m₀) → News h₀ env.locals h news₁ → Q .next { s with heap := h, toks := tk }) :
    wpAny (model prog w) A (pyIter (.ref D)) (fun it s₂ => LoopAtV prog w A h₀ env x body Q E it s₂) E s := by
  have lta : @LT.lt Nat _ D s.heap.objs.size := by obtain ⟨o, ho, _⟩ := hl; exact Heap.lt_size ho
  refine wpAny_pyIter_tuple hl ?_
  refine iter_seqK cs J (Walks.tuple hh s.heap.objs.size D (Nat.ne_of_lt lta) items) hD (Nat.ne_of_lt F.ns.lt) (next_is_new F) (fun p hp hI => absurd (Heap.lt_size (N p hp).1) (hI ▸ Nat.lt_irrefl _)) ⟨⟨_, Heap.get?_push_size _ rfl, rfl, rfl⟩, hl.at fun o e => Heap.get?_push_of_some _ e⟩ ?_ (F.push _) (fun p hp => ⟨Heap.get?_push_of_some _ (N p hp).1, (N p hp).2⟩) hj ?_ done
  · rintro i h ⟨⟨o, ho, _⟩, _⟩; exact Heap.lt_size ho
  · intro i v u news₁ h tk own hi hP hJ hoff hown hlt F₁ N₁
    exact turn i v u news₁ h tk _ own hi hP hJ hoff hown hlt F₁ N₁
end
end Mine
namespace Mine
open PySem.Builtin PyProof.V PySem.Spec

theorem paired_same : ∀ {a b : List Value}, Paired (fun v y => y = v) a b → b = a := by
  intro a b h
  induction h with
  | nil => rfl
  | cons h _ ih => rw [h, ih]
section
variable {prog : Program} {w : World} {A : Around} {E : Value → Shared → Prop} {s : Shared} {env : Env}
/-- `[x for x in a list if c]`, its names captured or not, as a value -/
theorem eval_filter {x : Str} {px px' : Pos} {iter c : PySem.Expr} {scope : Scope} {cl : List (Str × Addr)} {pos : Pos} {Q : Value → Shared → Prop} (p : Value → Bool) (hh : A.handled = none)
    (hclos : closureFor scope env = pure cl) (hcell : ∀ z ∈ scope.names, z.2 ≠ .cell) (hkind : scope.kind = .function)
    (hnames : ∀ z ∈ scope.names, z.2 = .local → scope.names.lookup z.1 = some .local) (hx : scope.names.lookup x = some .local) (hd : (x == ("__debug__" : Str)) = false)
    (h : wpAny (model prog w) A (eval iter env) (fun xv s₁ => ∃ (ax : Addr) (vs : List Value), xv = .ref ax ∧ s₁.heap.IsList ax (List.toArray vs) ∧ vs.length ≤ 1000000 ∧
      (∀ C s₃ m₃ E' v, v ∈ vs → s₃.heap.Ns C m₃ → m₃ x = some v → (∀ b o, s₁.heap.get? b = some o → s₃.heap.get? b = some o) →
        wpAny (model prog w) A (isTrue c (compEnvC scope cl C env) (eval c (compEnvC scope cl C env))) (fun ok s₄ => ok = p v ∧ Keeps s₃ s₄) E' s₃) ∧
      (∀ D h' tk c, s₁.heap.get? D = none → h'.get? D = some (W.listOf (List.toArray (vs.filter p)) c) → (∀ b o, s₁.heap.get? b = some o → h'.get? b = some o) → Q (.ref D) { s₁ with heap := h', toks := tk })) E s)
    (hs : ∀ x, foldedSetIterable iter env x = pure x := by intro _; rfl) :
    wpAny (model prog w) A (eval (.ListComp (.Name x px') [⟨.Name x px, iter, [c], 0⟩] scope pos) env) Q E s := by
  refine wpAny_ListComp_free p (fun v y => y = v) hclos hcell hkind hnames hx (wpAny_mono h (fun xv s₁ h₁ => ?_) fun _ _ e => e) hs
  obtain ⟨ax, vs, rfl, hl, hlen, ht, hQ⟩ := h₁
  have lta : @LT.lt Nat _ ax s₁.heap.objs.size := by obtain ⟨o, ho, _⟩ := hl; exact Heap.lt_size ho
  refine wpAny_pyIter_list hl ?_
  have W := Walks.list (prog := prog) (w := w) hh s₁.heap.objs.size ax (Nat.ne_of_lt lta) vs.toArray
  have hnI : ∀ b o, s₁.heap.get? b = some o → b ∉ [s₁.heap.objs.size] := fun b o e hm => absurd (Heap.lt_size e) (by rw [List.mem_singleton.mp hm]; exact Nat.lt_irrefl _)
  have item : ∀ {i : Nat} {v : Value}, vs.toArray[i]? = some v → v ∈ vs := fun {i v} hi => List.mem_of_getElem? (by simpa using hi)
  refine ⟨_, _, _, vs.toArray.size, _, _, rfl, W, by rw [List.size_toArray, sizeLine_eq]; omega, ⟨⟨_, Heap.get?_push_size _ rfl, rfl, rfl⟩, hl.at fun o e => Heap.get?_push_of_some _ e⟩, ?_, ⟨?_, ?_⟩, ?_⟩
  · intro b hb
    rw [Heap.size_push]
    rcases List.mem_cons.mp hb with rfl | hb
    · exact Nat.lt_succ_self _
    · rw [List.mem_singleton.mp hb]; exact Nat.lt_succ_of_lt lta
  · intro C i v s₃ m₃ E' hC hi hn₃ hx₃ hk _
    exact wpAny_tests_one (ht C s₃ m₃ E' v (item hi) hn₃ hx₃ fun b o e => hk b o (hnI b o e) (Heap.get?_push_of_some _ e))
  · intro C i v s₃ m₃ E' hC hi hpv hn₃ hx₃ hk _
    have hkd : (compEnvC scope cl C env).kindOf x = some .local := lookup_relabel_local hx
    have hk3 : (compEnvC scope cl C env).scope.kind = .function := by simp [compEnvC, relabel, hkind]
    exact wpAny_Name (wpAny_loadName_local hk3 hkd hn₃ hx₃ ⟨rfl, ⟨s₃.heap, s₃.toks, rfl, fun _ _ e => e⟩⟩) hd
  · intro D h' tk ys vs' hD hl' hpl hlen' hP hF hk
    obtain ⟨c, hpl⟩ := hpl
    have hvs : vs' = vs := by
      apply List.ext_getElem?
      intro j
      cases q : vs'[j]? with
      | none =>
        have := List.getElem?_eq_none_iff.mp q
        rw [hlen', List.size_toArray] at this
        rw [List.getElem?_eq_none this]
      | some v => have := hP j v q; rw [← this]; simp
    subst hvs
    have e := paired_same hF
    have hD' : s₁.heap.get? D = none := by
      cases q : s₁.heap.get? D with
      | none => rfl
      | some o =>
        have := Heap.get?_push_of_some { cls := .type "list_iterator", data := .fields #[.ref ax, .int 0 0] } q
        rw [show (s₁.heap.push { cls := .type "list_iterator", data := .fields #[.ref ax, .int 0 0] }).get? D = none from hD] at this
        cases this
    refine hQ D h' tk c hD' ?_ fun b o e => hk b o (hnI b o e) (Heap.get?_push_of_some _ e)
    rw [← e, Array.toArray_toList]; exact hpl
end

/-- a turn's end where the loop's name is a cell -/
def CellStepL (h₀ : Heap) (L c : Addr) (own : List (Addr × Obj)) (I : Addr) (Jn : (Str → Option Value) → List (Addr × Obj) → Prop) (s₁ : Shared) (f : Flow) (s₂ : Shared) : Prop :=
  f = .next ∧ ∃ h' tk m₂ o₂ news₂, s₂ = { s₁ with heap := h', toks := tk } ∧ Fr h₀ L h' m₂ ∧ News h₀ L h' ((c, o₂) :: (own ++ news₂)) ∧ (∀ p ∈ news₂, p.1 ≠ I ∧ p.1 ≠ c) ∧ (∃ v, o₂.data = .cell v) ∧ Jn m₂ news₂
section
variable {prog : Program} {w : World} {A : Around} {E : Value → Shared → Prop} {s : Shared} {env : Env}
theorem storeCell {M : Model} {A : Around} {E : Value → Shared → Prop} {s : Shared} {h₀ : Heap} {L : Addr} {m : Str → Option Value} {env : Env} {x : Str} {c : Addr} {o : Obj} {rest : List (Addr × Obj)} {v₀ : Option Value} {v : Value} {Q : Unit → Shared → Prop}
    (F : Fr h₀ L s.heap m) (N : News h₀ L s.heap ((c, o) :: rest)) (hr : ∀ p ∈ rest, p.1 ≠ c) (hd : o.data = .cell v₀) (hk : env.scope.kind = .function) (hl : env.kindOf x = some .cell) (hc : env.cells.lookup x = some c)
    (h : ∀ h' o', Fr h₀ L h' m → News h₀ L h' ((c, o') :: rest) → o'.data = .cell (some v) → Q () { s with heap := h' }) : wpAny M A (storeName env x v) Q E s := by
  have hmem := N (c, o) (.head _)
  refine wpAny_storeName_cell hk hl hc ⟨o, hmem.1, hd⟩ fun h' hv hs => ?_
  obtain ⟨o', ho', hd'⟩ := hv
  refine h h' o' ⟨F.ns.sameBut hs (Ne.symm hmem.2.1), fun b ob e => (hs.2 b (fun q => ?_)).trans (F.keep b ob e), F.above⟩ (N.setAt (own := []) (fun _ h => nomatch h) hr hs ho') hd'
  rw [q, hmem.2.2] at e; cases e

/-- a loop over a list of the base's, whose name is a cell -/
theorem For_list_cell {Q : Flow → Shared → Prop} {x : Str} {px pos : Pos} {iter : PySem.Expr} {body : List Stmt} {c : Addr} (h₀ : Heap) (hx : env.kindOf x = some .cell) (hc : env.cells.lookup x = some c) (hk : env.scope.kind = .function) (hh : A.handled = none)
    (h : wpAny (model prog w) A (eval iter env) (fun xv s₂ => ∃ (ax : Addr) (vs : List Value) (m : Str → Option Value) (o : Obj) (news : List (Addr × Obj)) (J : Nat → (Str → Option Value) → List (Addr × Obj) → Prop),
      xv = .ref ax ∧ h₀.IsList ax vs.toArray ∧ Fr h₀ env.locals s₂.heap m ∧ News h₀ env.locals s₂.heap ((c, o) :: news) ∧ (∀ p ∈ news, p.1 ≠ c) ∧ (∃ v, o.data = .cell v) ∧ J 0 m news ∧
      (∀ i v m₁ o₁ I oI news₁ h tk, vs[i]? = some v → J i m₁ news₁ → (∀ p ∈ news₁, p.1 ≠ I ∧ p.1 ≠ c) → I ≠ c → o₁.data = .cell (some v) → Fr h₀ env.locals h m₁ → News h₀ env.locals h ((c, o₁) :: ([(I, oI)] ++ news₁)) →
        wpAny (model prog w) A (execs body env) (CellStepL h₀ env.locals c [(I, oI)] I (J (i + 1)) { s₂ with heap := h, toks := tk }) E { s₂ with heap := h, toks := tk }) ∧
      ∀ h' tk m' o' news', Fr h₀ env.locals h' m' → News h₀ env.locals h' ((c, o') :: news') → (∀ p ∈ news', p.1 ≠ c) → (∃ v, o'.data = .cell v) → J vs.length m' news' → Q .next { s₂ with heap := h', toks := tk }) E s)
    (hs : ∀ x, foldedSetIterable iter env x = pure x := by intro _; rfl)
    (hE : PassesOwn (model prog w) A env E := by passes_own) :
    wpAny (model prog w) A (exec (.For (.Name x px) iter body [] pos) env) Q E s := by
  refine wpAny_For (wpAny_mono h (fun xv s₂ h₂ => ?_) fun _ _ e => e) hs
  obtain ⟨ax, vs, m, o, news, J, rfl, hl, F, N, hnc, hd, h0, step, hQ⟩ := h₂
  have hl2 : s₂.heap.IsList ax vs.toArray := hl.at fun o e => F.keep _ _ e
  have lta : @LT.lt Nat _ ax s₂.heap.objs.size := by obtain ⟨o, ho, _⟩ := hl2; exact Heap.lt_size ho
  refine wpAny_pyIter_list hl2 ?_
  have W := Walks.list (prog := prog) (w := w) hh s₂.heap.objs.size ax (Nat.ne_of_lt lta) vs.toArray
  obtain ⟨I, hIe⟩ : ∃ I, I = s₂.heap.objs.size := ⟨_, rfl⟩
  rw [← hIe] at W
  have hIL : I ≠ env.locals := by rw [hIe]; exact (Nat.ne_of_lt F.ns.lt).symm
  have hIc : I ≠ c := by rw [hIe]; exact (Nat.ne_of_lt (Heap.lt_size (N _ (.head _)).1)).symm
  have hI0 : h₀.get? I = none := by rw [hIe]; exact next_is_new F
  have hnw : ∀ p ∈ news, p.1 ≠ I ∧ p.1 ≠ c := fun p hp => ⟨by rw [hIe]; exact Nat.ne_of_lt (Heap.lt_size (N p (.tail _ hp)).1), hnc p hp⟩
  have axI : ax ≠ I := by rw [hIe]; exact Nat.ne_of_lt lta
  show codeAny (model prog w) A (.forLoop (.Name x px) (.ref s₂.heap.objs.size) body [] env) _ _
  rw [← hIe]
  have hst : Heap.IsListIter (s₂.heap.push { cls := .type "list_iterator", data := .fields #[.ref ax, .int 0 0] }) I ax 0 := by rw [hIe]; exact ⟨_, Heap.get?_push_size _ rfl, rfl, rfl⟩
  refine codeAny_forLoop (R := fun r s' => match r with | .ok f => Q f s' | .error e => cameBackBy (model prog w) A env E e s')
    (fun k s' => ∃ h' tk m' o' news' i, s' = { s₂ with heap := h', toks := tk } ∧ h'.IsListIter I ax i ∧ Fr h₀ env.locals h' m' ∧ News h₀ env.locals h' ((c, o') :: news') ∧ (∀ p ∈ news', p.1 ≠ I ∧ p.1 ≠ c) ∧ (∃ v, o'.data = .cell v) ∧ J i m' news' ∧ i ≤ vs.length ∧ k = vs.length + 1 - i) ?_ (vs.length + 1)
    ⟨_, s₂.toks, m, o, news, 0, rfl, hst, F.push _, fun p hp => ⟨Heap.get?_push_of_some _ (N p hp).1, (N p hp).2⟩, hnw, hd, h0, Nat.zero_le _, rfl⟩
  rintro k s' ⟨h', tk, m', o', news', i, rfl, hst', F', N', hnw', ⟨v₀, hd'⟩, hJ, hi, rfl⟩
  have next : ∀ h₁ : Heap, (∀ b o, b ∉ [I] → h'.get? b = some o → h₁.get? b = some o) → Fr h₀ env.locals h₁ m' ∧ News h₀ env.locals h₁ ((c, o') :: news') := fun h₁ hk₁ =>
    ⟨⟨F'.ns.at' fun o e => hk₁ _ o (fun hm => hIL (List.mem_singleton.mp hm).symm) e, fun b o e => hk₁ b o (fun hm => by rw [List.mem_singleton.mp hm, hI0] at e; cases e) (F'.keep b o e), F'.above⟩,
      fun p hp => ⟨hk₁ _ _ (fun hm => by
        rcases List.mem_cons.mp hp with rfl | hp
        · exact hIc (List.mem_singleton.mp hm).symm
        · exact (hnw' p hp).1 (List.mem_singleton.mp hm)) (N' p hp).1, (N' p hp).2⟩⟩
  have hl' : h'.IsList ax vs.toArray := hl.at fun o e => F'.keep _ _ e
  by_cases hlt : i < vs.length
  · refine W.item i _ _ _ (by simpa using hlt) ⟨hst', hl'⟩ fun v h₁ tk₁ hP hst₁ hk₁ => ?_
    obtain ⟨F₁, N₁⟩ := next h₁ hk₁
    obtain ⟨oI, hoI, hoI2⟩ := id hst₁.1
    have hp : (env.scope.kind == .class || (env.scope.kind == .module && env.locals != env.globals)) = false := by rw [hk]; rfl
    have N₁' : News h₀ env.locals h₁ ((c, o') :: ([(I, oI)] ++ news')) := by
      intro p hp
      rcases List.mem_cons.mp hp with rfl | hp
      · exact N₁ _ (.head _)
      · rcases List.mem_cons.mp hp with rfl | hp
        · exact ⟨hoI, hIL, hI0⟩
        · exact N₁ _ (.tail _ hp)
    have hoff : ∀ p ∈ [(I, oI)] ++ news', p.1 ≠ c := by
      intro p hp
      rcases List.mem_cons.mp hp with rfl | hp
      · exact hIc
      · exact (hnw' p hp).2
    refine wpAny_assign_Name (storeCell (o := o') F₁ N₁' hoff hd' hk hx hc fun h₂ o₂ F₂ N₂ hd₂ => ?_)
    refine wpAny_mono (wpAny_passesOwn hE (step i v m' o₂ I oI news' h₂ tk₁ (by simpa using hP) hJ hnw' hIc hd₂ F₂ N₂)) (fun f s₃ h₃ => ?_) fun _ _ e => e
    obtain ⟨rfl, h₃', tk₃, m₂, o₃, news₂, rfl, F₃, N₃, ha₃, hd₃, hJ₃⟩ := h₃
    refine ⟨vs.length + 1 - (i + 1), by omega, h₃', tk₃, m₂, o₃, news₂, i + 1, rfl, ⟨oI, (N₃ (I, oI) (.tail _ (.head _))).1, hoI2⟩, F₃, ?_, ha₃, hd₃, hJ₃, hlt, rfl⟩
    intro p hp
    rcases List.mem_cons.mp hp with rfl | hp
    · exact N₃ _ (.head _)
    · exact N₃ _ (.tail _ (.tail _ hp))
  · obtain rfl : i = vs.length := by omega
    have hst'' : h'.IsListIter I ax vs.toArray.size := by simpa using hst'
    refine W.done _ _ _ ⟨hst'', hl'⟩ fun h₁ tk₁ hk₁ => wpAny_execs_nil ?_
    obtain ⟨F₁, N₁⟩ := next h₁ hk₁
    exact hQ h₁ tk₁ m' o' news' F₁ N₁ (fun p hp => (hnw' p hp).2) ⟨v₀, hd'⟩ hJ
end
end Mine
namespace Mine
open PySem.Builtin PyProof.V PySem.Spec
section
variable {prog : Program} {w : World} {A : Around} {E : Value → Shared → Prop} {s : Shared} {env : Env} {h₀ : Heap}
/-- `y = [x for x in a list if c]`, its names captured or not -/
theorem asg_filter {x y : Str} {px py px' : Pos} {iter c : PySem.Expr} {scope : Scope} {cl : List (Str × Addr)} {pos spos : Pos} {Q : Flow → Shared → Prop} (p : Value → Bool)
    (hh : A.handled = none)
    (hsw : swapsWith (.ListComp (.Name x px') [⟨.Name x px, iter, [c], 0⟩] scope pos) (some (.Name y py)) spos.line env = pure true)
    (hclos : closureFor scope env = pure cl) (hcell : ∀ z ∈ scope.names, z.2 ≠ .cell) (hkind : scope.kind = .function)
    (hnames : ∀ z ∈ scope.names, z.2 = .local → scope.names.lookup z.1 = some .local) (hx : scope.names.lookup x = some .local)
    (hy : env.kindOf y = some .local) (hp : (env.scope.kind == .class || (env.scope.kind == .module && env.locals != env.globals)) = false) (hd : (x == ("__debug__" : Str)) = false)
    (h : wpAny (model prog w) A (eval iter env) (fun xv s₁ => ∃ (ax : Addr) (vs : List Value) (m : Str → Option Value) (news : List (Addr × Obj)), xv = .ref ax ∧ s₁.heap.IsList ax (List.toArray vs) ∧ vs.length ≤ 1000000 ∧ Fr h₀ env.locals s₁.heap m ∧ News h₀ env.locals s₁.heap news ∧
      (∀ C s₃ m₃ E' v, v ∈ vs → s₃.heap.Ns C m₃ → m₃ x = some v → (∀ b o, s₁.heap.get? b = some o → s₃.heap.get? b = some o) →
        wpAny (model prog w) A (isTrue c (compEnvC scope cl C env) (eval c (compEnvC scope cl C env))) (fun ok s₄ => ok = p v ∧ Keeps s₃ s₄) E' s₃) ∧
      (∀ D h' tk c, Fr h₀ env.locals h' (fun z => if z = y then some (.ref D) else m z) → News h₀ env.locals h' ((D, W.listOf (List.toArray (vs.filter p)) c) :: news) → (∀ q ∈ news, q.1 ≠ D) → s₁.heap.get? D = none → (∀ b o, b ≠ env.locals → s₁.heap.get? b = some o → h'.get? b = some o) →
        Q .next { s₁ with heap := h', toks := tk })) E s)
    (hs : ∀ x, foldedSetIterable iter env x = pure x := by intro _; rfl) :
    wpAny (model prog w) A (exec (.Assign [.Name y py] (.ListComp (.Name x px') [⟨.Name x px, iter, [c], 0⟩] scope pos) spos) env) Q E s := by
  refine wpAny_Assign_ListComp_free p (fun v y => y = v) hsw hclos hcell hkind hnames hx hy hp (wpAny_mono h (fun xv s₁ h₁ => ?_) fun _ _ e => e) hs
  obtain ⟨ax, vs, m, news, rfl, hl, hlen, F, N, ht, hQ⟩ := h₁
  have lta : @LT.lt Nat _ ax s₁.heap.objs.size := by obtain ⟨o, ho, _⟩ := hl; exact Heap.lt_size ho
  refine wpAny_pyIter_list hl ?_
  have W := Walks.list (prog := prog) (w := w) hh s₁.heap.objs.size ax (Nat.ne_of_lt lta) vs.toArray
  have hnI : ∀ b o, s₁.heap.get? b = some o → b ∉ [s₁.heap.objs.size] := fun b o e hm => absurd (Heap.lt_size e) (by rw [List.mem_singleton.mp hm]; exact Nat.lt_irrefl _)
  have item : ∀ {i : Nat} {v : Value}, vs.toArray[i]? = some v → v ∈ vs := fun {i v} hi => List.mem_of_getElem? (by simpa using hi)
  have hLI : env.locals ≠ s₁.heap.objs.size := Nat.ne_of_lt F.ns.lt
  refine ⟨_, _, _, vs.toArray.size, _, _, m, rfl, W, by rw [List.size_toArray, sizeLine_eq]; omega, ⟨⟨_, Heap.get?_push_size _ rfl, rfl, rfl⟩, hl.at fun o e => Heap.get?_push_of_some _ e⟩, ?_, ?_, F.ns.push _, ⟨?_, ?_⟩, ?_⟩
  · intro b hb
    rw [Heap.size_push]
    rcases List.mem_cons.mp hb with rfl | hb
    · exact Nat.lt_succ_self _
    · rw [List.mem_singleton.mp hb]; exact Nat.lt_succ_of_lt lta
  · intro hm
    exact hLI (List.mem_singleton.mp hm)
  · intro C i v s₃ m₃ E' hC hi hn₃ hx₃ hk _
    exact wpAny_tests_one (ht C s₃ m₃ E' v (item hi) hn₃ hx₃ fun b o e => hk b o (hnI b o e) (Heap.get?_push_of_some _ e))
  · intro C i v s₃ m₃ E' hC hi hpv hn₃ hx₃ hk _
    have hkd : (compEnvC scope cl C env).kindOf x = some .local := lookup_relabel_local hx
    have hk3 : (compEnvC scope cl C env).scope.kind = .function := by simp [compEnvC, relabel, hkind]
    exact wpAny_Name (wpAny_loadName_local hk3 hkd hn₃ hx₃ ⟨rfl, ⟨s₃.heap, s₃.toks, rfl, fun _ _ e => e⟩⟩) hd
  · intro D h' tk ys vs' hD hl' hpl hlen' hP hF hns hk
    obtain ⟨c, hpl⟩ := hpl
    have hvs : vs' = vs := by
      apply List.ext_getElem?
      intro j
      cases q : vs'[j]? with
      | none =>
        have := List.getElem?_eq_none_iff.mp q
        rw [hlen', List.size_toArray] at this
        rw [List.getElem?_eq_none this]
      | some v => have := hP j v q; rw [← this]; simp
    subst hvs
    have e := paired_same hF
    have hk' : ∀ b o, b ≠ env.locals → s₁.heap.get? b = some o → h'.get? b = some o := fun b o hb e => hk b o hb (hnI b o e) (Heap.get?_push_of_some _ e)
    have hD' : s₁.heap.get? D = none := by
      cases q : s₁.heap.get? D with
      | none => rfl
      | some o =>
        have := Heap.get?_push_of_some { cls := .type "list_iterator", data := .fields #[.ref ax, .int 0 0] } q
        rw [show (s₁.heap.push { cls := .type "list_iterator", data := .fields #[.ref ax, .int 0 0] }).get? D = none from hD] at this
        cases this
    have hold : ∀ b o, s₁.heap.get? b = some o → b ≠ D := fun b o e hb => by rw [hb, hD'] at e; cases e
    have hDL : D ≠ env.locals := fun e => by
      obtain ⟨oL, _, _, hoL, _⟩ := F.ns
      exact hold _ _ hoL e.symm
    have F' : Fr h₀ env.locals h' (fun z => if z = y then some (.ref D) else m z) := ⟨hns, fun b o e => hk' b o (Nat.ne_of_lt (Nat.lt_of_lt_of_le (Heap.lt_size e) F.above)) (F.keep b o e), F.above⟩
    refine hQ D h' tk c F' ?_ (fun p hp e => hold _ _ (N p hp).1 e) hD' hk'
    intro p hp
    rcases List.mem_cons.mp hp with rfl | hp
    · refine ⟨by rw [← e, Array.toArray_toList]; exact hpl, hDL, ?_⟩
      cases q : h₀.get? D with
      | none => rfl
      | some o => exact absurd rfl (hold _ _ (F.keep _ _ q))
    · exact ⟨hk' _ _ (N p hp).2.1 (N p hp).1, (N p hp).2⟩
end
end Mine
namespace Mine
open PySem.Builtin PyProof.V PySem.Spec
section
variable {prog : Program} {w : World} {A : Around} {E : Value → Shared → Prop} {s : Shared} {env : Env}
/-- a loop over a tuple of the ledger's, whose name is a cell -/
theorem For_tuple_cell {Q : Flow → Shared → Prop} {x : Str} {px pos : Pos} {iter : PySem.Expr} {body : List Stmt} {c : Addr} (h₀ : Heap) (hx : env.kindOf x = some .cell) (hc : env.cells.lookup x = some c) (hk : env.scope.kind = .function) (hh : A.handled = none)
    (h : wpAny (model prog w) A (eval iter env) (fun xv s₂ => ∃ (ax : Addr) (oT : Obj) (vs : List Value) (m : Str → Option Value) (o : Obj) (news : List (Addr × Obj)) (J : Nat → (Str → Option Value) → List (Addr × Obj) → Prop),
      xv = .ref ax ∧ s₂.heap.IsTuple ax vs.toArray ∧ s₂.heap.get? ax = some oT ∧ ax ≠ env.locals ∧ ax ≠ c ∧ h₀.get? ax = none ∧ Fr h₀ env.locals s₂.heap m ∧ News h₀ env.locals s₂.heap ((c, o) :: news) ∧ (∀ p ∈ news, p.1 ≠ c) ∧ (∃ v, o.data = .cell v) ∧ J 0 m news ∧
      (∀ i v m₁ o₁ I oI news₁ h tk, vs[i]? = some v → J i m₁ news₁ → (∀ p ∈ news₁, p.1 ≠ I ∧ p.1 ≠ c) → I ≠ c → ax ≠ c → o₁.data = .cell (some v) → Fr h₀ env.locals h m₁ → News h₀ env.locals h ((c, o₁) :: ([(I, oI), (ax, oT)] ++ news₁)) →
        wpAny (model prog w) A (execs body env) (CellStepL h₀ env.locals c [(I, oI), (ax, oT)] I (J (i + 1)) { s₂ with heap := h, toks := tk }) E { s₂ with heap := h, toks := tk }) ∧
      ∀ h' tk m' o' news', Fr h₀ env.locals h' m' → News h₀ env.locals h' ((c, o') :: news') → (∀ p ∈ news', p.1 ≠ c) → (∃ v, o'.data = .cell v) → J vs.length m' news' → Q .next { s₂ with heap := h', toks := tk }) E s)
    (hs : ∀ x, foldedSetIterable iter env x = pure x := by intro _; rfl)
    (hE : PassesOwn (model prog w) A env E := by passes_own) :
    wpAny (model prog w) A (exec (.For (.Name x px) iter body [] pos) env) Q E s := by
  refine wpAny_For (wpAny_mono h (fun xv s₂ h₂ => ?_) fun _ _ e => e) hs
  obtain ⟨ax, oT, vs, m, o, news, J, rfl, hl2, hoT, haxL, haxc, hax0, F, N, hnc, hd, h0, step, hQ⟩ := h₂
  have lta : @LT.lt Nat _ ax s₂.heap.objs.size := by obtain ⟨o, ho, _⟩ := hl2; exact Heap.lt_size ho
  refine wpAny_pyIter_tuple hl2 ?_
  have W := Walks.tuple (prog := prog) (w := w) hh s₂.heap.objs.size ax (Nat.ne_of_lt lta) vs.toArray
  obtain ⟨I, hIe⟩ : ∃ I, I = s₂.heap.objs.size := ⟨_, rfl⟩
  rw [← hIe] at W
  have hIL : I ≠ env.locals := by rw [hIe]; exact (Nat.ne_of_lt F.ns.lt).symm
  have hIc : I ≠ c := by rw [hIe]; exact (Nat.ne_of_lt (Heap.lt_size (N _ (.head _)).1)).symm
  have hI0 : h₀.get? I = none := by rw [hIe]; exact next_is_new F
  have hnw : ∀ p ∈ news, p.1 ≠ I ∧ p.1 ≠ c := fun p hp => ⟨by rw [hIe]; exact Nat.ne_of_lt (Heap.lt_size (N p (.tail _ hp)).1), hnc p hp⟩
  have axI : ax ≠ I := by rw [hIe]; exact Nat.ne_of_lt lta
  show codeAny (model prog w) A (.forLoop (.Name x px) (.ref s₂.heap.objs.size) body [] env) _ _
  rw [← hIe]
  have hst : Heap.IsTupleIter (s₂.heap.push { cls := .type "tuple_iterator", data := .fields #[.ref ax, .int 0 0] }) I ax 0 := by rw [hIe]; exact ⟨_, Heap.get?_push_size _ rfl, rfl, rfl⟩
  refine codeAny_forLoop (R := fun r s' => match r with | .ok f => Q f s' | .error e => cameBackBy (model prog w) A env E e s')
    (fun k s' => ∃ h' tk m' o' news' i, s' = { s₂ with heap := h', toks := tk } ∧ h'.IsTupleIter I ax i ∧ Fr h₀ env.locals h' m' ∧ News h₀ env.locals h' ((c, o') :: news') ∧ (∀ p ∈ news', p.1 ≠ I ∧ p.1 ≠ c) ∧ (∃ v, o'.data = .cell v) ∧ J i m' news' ∧ i ≤ vs.length ∧ k = vs.length + 1 - i ∧ h'.get? ax = some oT) ?_ (vs.length + 1)
    ⟨_, s₂.toks, m, o, news, 0, rfl, hst, F.push _, fun p hp => ⟨Heap.get?_push_of_some _ (N p hp).1, (N p hp).2⟩, hnw, hd, h0, Nat.zero_le _, rfl, Heap.get?_push_of_some _ hoT⟩
  rintro k s' ⟨h', tk, m', o', news', i, rfl, hst', F', N', hnw', ⟨v₀, hd'⟩, hJ, hi, rfl, hT'⟩
  have next : ∀ h₁ : Heap, (∀ b o, b ∉ [I] → h'.get? b = some o → h₁.get? b = some o) → Fr h₀ env.locals h₁ m' ∧ News h₀ env.locals h₁ ((c, o') :: news') := fun h₁ hk₁ =>
    ⟨⟨F'.ns.at' fun o e => hk₁ _ o (fun hm => hIL (List.mem_singleton.mp hm).symm) e, fun b o e => hk₁ b o (fun hm => by rw [List.mem_singleton.mp hm, hI0] at e; cases e) (F'.keep b o e), F'.above⟩,
      fun p hp => ⟨hk₁ _ _ (fun hm => by
        rcases List.mem_cons.mp hp with rfl | hp
        · exact hIc (List.mem_singleton.mp hm).symm
        · exact (hnw' p hp).1 (List.mem_singleton.mp hm)) (N' p hp).1, (N' p hp).2⟩⟩
  have hl' : h'.IsTuple ax vs.toArray := hl2.at fun o e => by rw [hoT] at e; rw [← Option.some.inj e]; exact hT'
  by_cases hlt : i < vs.length
  · refine W.item i _ _ _ (by simpa using hlt) ⟨hst', hl'⟩ fun v h₁ tk₁ hP hst₁ hk₁ => ?_
    obtain ⟨F₁, N₁⟩ := next h₁ hk₁
    obtain ⟨oI, hoI, hoI2⟩ := id hst₁.1
    have hp : (env.scope.kind == .class || (env.scope.kind == .module && env.locals != env.globals)) = false := by rw [hk]; rfl
    have N₁' : News h₀ env.locals h₁ ((c, o') :: ([(I, oI), (ax, oT)] ++ news')) := by
      intro p hp
      rcases List.mem_cons.mp hp with rfl | hp
      · exact N₁ _ (.head _)
      · rcases List.mem_cons.mp hp with rfl | hp
        · exact ⟨hoI, hIL, hI0⟩
        · rcases List.mem_cons.mp hp with rfl | hp
          · exact ⟨hk₁ _ _ (fun hm => axI (List.mem_singleton.mp hm)) hT', haxL, hax0⟩
          · exact N₁ _ (.tail _ hp)
    have hoff : ∀ p ∈ [(I, oI), (ax, oT)] ++ news', p.1 ≠ c := by
      intro p hp
      rcases List.mem_cons.mp hp with rfl | hp
      · exact hIc
      · rcases List.mem_cons.mp hp with rfl | hp
        · exact haxc
        · exact (hnw' p hp).2
    refine wpAny_assign_Name (storeCell (o := o') F₁ N₁' hoff hd' hk hx hc fun h₂ o₂ F₂ N₂ hd₂ => ?_)
    refine wpAny_mono (wpAny_passesOwn hE (step i v m' o₂ I oI news' h₂ tk₁ (by simpa using hP) hJ hnw' hIc haxc hd₂ F₂ N₂)) (fun f s₃ h₃ => ?_) fun _ _ e => e
    obtain ⟨rfl, h₃', tk₃, m₂, o₃, news₂, rfl, F₃, N₃, ha₃, hd₃, hJ₃⟩ := h₃
    refine ⟨vs.length + 1 - (i + 1), by omega, h₃', tk₃, m₂, o₃, news₂, i + 1, rfl, ⟨oI, (N₃ (I, oI) (.tail _ (.head _))).1, hoI2⟩, F₃, ?_, ha₃, hd₃, hJ₃, hlt, rfl, (N₃ (ax, oT) (.tail _ (.tail _ (.head _)))).1⟩
    intro p hp
    rcases List.mem_cons.mp hp with rfl | hp
    · exact N₃ _ (.head _)
    · exact N₃ _ (.tail _ (.tail _ (.tail _ hp)))
  · obtain rfl : i = vs.length := by omega
    have hst'' : h'.IsTupleIter I ax vs.toArray.size := by simpa using hst'
    refine W.done _ _ _ ⟨hst'', hl'⟩ fun h₁ tk₁ hk₁ => wpAny_execs_nil ?_
    obtain ⟨F₁, N₁⟩ := next h₁ hk₁
    exact hQ h₁ tk₁ m' o' news' F₁ N₁ (fun p hp => (hnw' p hp).2) ⟨v₀, hd'⟩ hJ
end
end Mine
namespace Mine
open PySem.Builtin PyProof.V PySem.Spec
theorem compTurn_mut (elt iter : PySem.Expr) (x : Str) (px : Pos) (scope : Scope) (pos : Pos) (it acc : Value) (env : Env) :
    compTurn (.ListComp elt [⟨.Name x px, iter, [], 0⟩] scope pos) 0 it acc env = (standAt iter.pos >>= fun _ => pyNext it >>= fun r => match r with
      | none => pure (.done .next)
      | some v => letOwnedTupleGo (.Name x px) it v >>= fun _ => assign (.Name x px) env v >>= fun _ =>
        (eval elt env >>= fun x => call (.builtin "list.append") [acc, x] >>= fun _ => pure ()) >>= fun _ =>
          again (.compLoop (.ListComp elt [⟨.Name x px, iter, [], 0⟩] scope pos) 0 it acc env)) := by rfl

/-- what is asked of an element that changes objects: only those of Mut change -/
def MutOk (prog : Program) (w : World) (A : Around) (env : Env) (scope : Scope) (cl : List (Str × Addr)) (x : Str) (elt : PySem.Expr) (vs : List Value) (Mut : List Addr) (J : Nat → List Value → Heap → Prop) (h₂ : Heap) (wr : List Addr) : Prop :=
  ∀ C i v s₃ m₃ E' ys, vs[i]? = some v → s₃.heap.Ns C m₃ → m₃ x = some v → (∀ b o, b ∉ wr → b ∉ Mut → h₂.get? b = some o → s₃.heap.get? b = some o) → J i ys s₃.heap →
    wpAny (model prog w) A (eval elt (compEnvC scope cl C env)) (fun r s₄ => ∃ h' tk, s₄ = { s₃ with heap := h', toks := tk } ∧ (∀ b o, b ∉ Mut → s₃.heap.get? b = some o → h'.get? b = some o) ∧ J (i + 1) (ys ++ [r]) h') E' s₃
/-- a word over a heap that looks at the changed objects alone -/
def MutFrame (Mut : List Addr) (J : Nat → List Value → Heap → Prop) : Prop := ∀ i ys h h', (∀ b o, b ∈ Mut → h.get? b = some o → h'.get? b = some o) → J i ys h → J i ys h'
section
variable {prog : Program} {w : World} {A : Around} {E : Value → Shared → Prop} {env : Env}
theorem mut_outer {R : Result → Shared → Prop} {s s₂ : Shared} {elt iter : PySem.Expr} {x : Str} {px : Pos} {scope : Scope} {cl : List (Str × Addr)} {pos : Pos} {I ax D C : Addr} {vs : List Value} {m : Str → Option Value} {Mut : List Addr} {J : Nat → List Value → Heap → Prop}
    (hh : A.handled = none) (hkind : scope.kind = .function) (hx : scope.names.lookup x = some .local)
    (hDC : D ≠ C) (hDI : D ≠ I) (hDa : D ≠ ax) (hCI : C ≠ I) (hCa : C ≠ ax) (hIa : ax ≠ I) (hC2 : s₂.heap.objs.size ≤ C) (hD2 : s₂.heap.objs.size ≤ D)
    (hMC : C ∉ Mut) (hMI : I ∉ Mut) (hMD : D ∉ Mut) (hMa : ax ∉ Mut) (hfr : MutFrame Mut J)
    (hold : ∀ b o, s₂.heap.get? b = some o → s.heap.get? b = some o)
    (hq : MutOk prog w A env scope cl x elt vs Mut J s₂.heap [I]) (hj : J 0 [] s.heap) (hsz : vs.length ≤ 100000)
    (hit : s.heap.IsListIter I ax 0) (hl : s.heap.IsList ax vs.toArray) (hacc : s.heap.PlainList D #[]) (hn : s.heap.Ns C m)
    (hR : ∀ h' tk m' ys, h'.Ns C m' → h'.PlainList D (List.toArray ys) → J vs.length ys h' →
      (∀ b o, b ≠ C → b ≠ I → b ≠ D → b ∉ Mut → s.heap.get? b = some o → h'.get? b = some o) → R (.ok .next) { s with heap := h', toks := tk }) :
    codeAny (model prog w) A (.compLoop (.ListComp elt [⟨.Name x px, iter, [], 0⟩] scope pos) 0 (.ref I) (.ref D) (compEnvC scope cl C env)) R s := by
  have WL := Walks.list (prog := prog) (w := w) hh I ax hIa vs.toArray
  have hkx : (compEnvC scope cl C env).kindOf x = some .local := lookup_relabel_local hx
  have hk3 : (compEnvC scope cl C env).scope.kind = .function := by simp [compEnvC, relabel, hkind]
  have hp : ((compEnvC scope cl C env).scope.kind == .class || ((compEnvC scope cl C env).scope.kind == .module && (compEnvC scope cl C env).locals != (compEnvC scope cl C env).globals)) = false := by rw [hk3]; rfl
  refine codeAny_loop rfl (fun k s' => ∃ i h' tk m' ys, s' = { s with heap := h', toks := tk } ∧ k = vs.length + 1 - i ∧ i ≤ vs.length ∧ (h'.IsListIter I ax i ∧ h'.IsList ax vs.toArray) ∧ h'.Ns C m' ∧
    h'.PlainList D (List.toArray ys) ∧ ys.length = i ∧ J i ys h' ∧ (∀ b o, b ≠ C → b ≠ I → b ≠ D → b ∉ Mut → s.heap.get? b = some o → h'.get? b = some o)) ?_ (vs.length + 1)
    ⟨0, s.heap, s.toks, m, [], rfl, rfl, Nat.zero_le _, ⟨hit, hl⟩, hn, hacc, rfl, hj, fun _ _ _ _ _ _ e => e⟩
  rintro k s' ⟨i, H, tk, m', ys, rfl, rfl, hi, hst', hn', hacc', hyl, hJ, hk'⟩
  show wpAny _ A ((compTurn (.ListComp elt [⟨.Name x px, iter, [], 0⟩] scope pos) 0 (.ref I) (.ref D) (compEnvC scope cl C env)).onRaise (fun x => do noteFrame x (compEnvC scope cl C env); theTreesLotGoes x)) _ _ _
  refine wpAny_noted ?_
  rw [compTurn_mut]
  refine wpAny_bind (wpAny_standAt (wpAny_bind ?_))
  by_cases hlt : i < vs.length
  · refine WL.item i _ _ _ (by simpa using hlt) hst' fun v h₁ tk₁ hPv hst₁ hk₁ => ?_
    have hv : vs[i]? = some v := by simpa using hPv
    have hk₁' : ∀ b o, b ≠ I → H.get? b = some o → h₁.get? b = some o := fun b o hb e => hk₁ b o (by rw [List.mem_singleton]; exact hb) e
    refine wpAny_bind (wpAny_of_eq rfl (wpAny_bind (wpAny_assign_Name (wpAny_storeName_local hkx (hn'.at' fun o e => hk₁' _ o hCI e) (fun h₂ hn₂ hs₂ => ?_) hp))))
    have up₂ : ∀ b o, b ≠ C → b ≠ I → H.get? b = some o → h₂.get? b = some o := fun b o h1 h2 e => hs₂.extBut b o h1 (hk₁' b o h2 e)
    have hJ₂ : J i ys h₂ := hfr _ _ _ _ (fun b o hb e => up₂ b o (fun q => hMC (q ▸ hb)) (fun q => hMI (q ▸ hb)) e) hJ
    refine wpAny_bind (wpAny_bind (wpAny_mono (hq C i v _ _ _ ys hv hn₂ (if_pos rfl) ?_ hJ₂) (fun r s₄ h₄ => ?_) fun _ _ e => e))
    · intro b o hb hbM e
      have hlt := Heap.lt_size e
      have b1 : b ≠ C := fun e => absurd hC2 (by rw [← e]; exact Nat.not_le.mpr hlt)
      have b2 : b ≠ D := fun e => absurd hD2 (by rw [← e]; exact Nat.not_le.mpr hlt)
      have b3 : b ≠ I := fun e => hb (by rw [e]; exact .head _)
      exact up₂ b o b1 b3 (hk' b o b1 b3 b2 hbM (hold b o e))
    obtain ⟨h₄, tk₄, rfl, hk₄, hJ₄⟩ := h₄
    try dsimp only at hk₄ ⊢
    have hD₂ : h₂.PlainList D (List.toArray ys) := hacc'.at fun o e => up₂ D o hDC hDI e
    have hD₄ : h₄.PlainList D (List.toArray ys) := hD₂.at fun o e => hk₄ _ _ hMD e
    have hst₂ := WL.frame _ _ h₂ hst₁ fun b hb o e => hs₂.extBut b o (by rintro rfl; rcases List.mem_cons.mp hb with h | h; exact hCI h; exact hCa (List.mem_singleton.mp h)) e
    refine wpAny_bind (wpAny_list_append_plain (hsz := by rw [sizeLine_eq, List.size_toArray]; omega) hD₄ fun h₅ hl₅ hs₅ => wpAny_pure (wpAny_pure ⟨rfl, vs.length + 1 - (i + 1), by omega, i + 1, h₅, _, _, ys ++ [r], rfl, rfl, by omega, ?_, (hn₂.at' fun o e => hk₄ _ o hMC e).sameBut hs₅ (Ne.symm hDC), ?_, by simp [hyl], ?_, ?_⟩))
    · have st₄ := WL.frame _ _ h₄ hst₂ fun b hb o e => hk₄ b o (by rintro hm; rcases List.mem_cons.mp hb with h | h; exact hMI (h ▸ hm); exact hMa (List.mem_singleton.mp h ▸ hm)) e
      exact WL.frame _ _ h₅ st₄ fun b hb o e => hs₅.extBut b o (by rintro rfl; rcases List.mem_cons.mp hb with h | h; exact hDI h; exact hDa (List.mem_singleton.mp h)) e
    · simpa using hl₅
    · exact hfr _ _ _ _ (fun b o hb e => hs₅.extBut b o (fun q => hMD (q ▸ hb)) e) hJ₄
    · intro b o h1 h2 h3 hbM e
      exact hs₅.extBut b o h3 (hk₄ b o hbM (up₂ b o h1 h2 (hk' b o h1 h2 h3 hbM e)))
  · obtain rfl : i = vs.length := by omega
    have hst'' : H.IsListIter I ax vs.toArray.size ∧ H.IsList ax vs.toArray := by simpa using hst'
    refine WL.done _ _ _ hst'' fun h₁ tk₁ hk₁ => wpAny_pure ?_
    have up : ∀ b o, b ≠ I → H.get? b = some o → h₁.get? b = some o := fun b o hb e => hk₁ b o (by rw [List.mem_singleton]; exact hb) e
    exact hR h₁ tk₁ m' ys (hn'.at' fun o e => up _ o hCI e) (hacc'.at fun o e => up D o hDI e) (hfr _ _ _ _ (fun b o hb e => up b o (fun q => hMI (q ▸ hb)) e) hJ) fun b o h1 h2 h3 hbM e => up b o h2 (hk' b o h1 h2 h3 hbM e)
theorem mut_block {s₂ : Shared} {elt iter : PySem.Expr} {x : Str} {px : Pos} {scope : Scope} {cl : List (Str × Addr)} {pos : Pos} {I ax : Addr} {vs : List Value} {RR : Value → Addr → Result → Shared → Prop} {Mut : List Addr} {J : Nat → List Value → Heap → Prop}
    (hh : A.handled = none) (hcell : ∀ y ∈ scope.names, y.2 ≠ .cell) (hkind : scope.kind = .function) (hx : scope.names.lookup x = some .local) (hIa : ax ≠ I)
    (hMI : I ∉ Mut) (hMa : ax ∉ Mut) (hMo : ∀ b ∈ Mut, ∃ o, s₂.heap.get? b = some o) (hfr : MutFrame Mut J)
    (hq : MutOk prog w A env scope cl x elt vs Mut J s₂.heap [I]) (hj : J 0 [] s₂.heap) (hsz : vs.length ≤ 100000)
    (hit : s₂.heap.IsListIter I ax 0) (hl : s₂.heap.IsList ax vs.toArray)
    (hRR : ∀ D C h' tk m' ys, s₂.heap.get? D = none → s₂.heap.get? C = none → D ≠ C → h'.Ns C m' → h'.PlainList D (List.toArray ys) → J vs.length ys h' →
      (∀ b o, b ≠ I → b ∉ Mut → s₂.heap.get? b = some o → h'.get? b = some o) → RR (.ref D) C (.ok .next) { s₂ with heap := h', toks := tk }) :
    wpAny (model prog w) A (newList []) (fun acc s₃ => wpAny (model prog w) A (newFunctionEnv scope env.globals cl [] env.qual none .none (some env)) (fun cenv s₄ =>
      codeAny (model prog w) A (.compStart (.ListComp elt [⟨.Name x px, iter, [], 0⟩] scope pos) 0 (.ref I) acc { cenv with scope := relabel scope env }) (RR acc cenv.locals) s₄) E s₃) E s₂ := by
  refine wpAny_newObj_type (wpAny_newFunctionEnv hcell (by intro y hy; simp at hy) (fun h₁ hns₁ hsb₁ => ?_) hkind)
  dsimp only at hns₁ hsb₁ ⊢
  generalize hH2 : s₂.heap.push { cls := .type "list", dict := none, data := .seq ([] : List Value).toArray } = H2 at hns₁ hsb₁ ⊢
  have hC : H2.objs.size = s₂.heap.objs.size + 1 := by rw [← hH2, Heap.size_push]
  have hDC : s₂.heap.objs.size ≠ H2.objs.size := by rw [hC]; exact Nat.ne_of_lt (Nat.lt_succ_self _)
  have hCle : s₂.heap.objs.size ≤ H2.objs.size := by rw [hC]; exact Nat.le_succ _
  have below : ∀ b, b < s₂.heap.objs.size → b ≠ H2.objs.size ∧ b ≠ s₂.heap.objs.size := fun b hb => ⟨by rw [hC]; exact Nat.ne_of_lt (Nat.lt_succ_of_lt hb), Nat.ne_of_lt hb⟩
  have old : ∀ b o, s₂.heap.get? b = some o → h₁.get? b = some o := fun b o e => hsb₁.extBut b o (below b (Heap.lt_size e)).1 (Heap.get?_push_of_some _ (hH2 ▸ Heap.get?_push_of_some _ e))
  have hacc : h₁.PlainList s₂.heap.objs.size #[] := ⟨_, hsb₁.extBut _ _ hDC (Heap.get?_push_of_some _ (hH2 ▸ Heap.get?_push_size _ rfl))⟩
  have fresh : ∀ a, s₂.heap.objs.size ≤ a → s₂.heap.get? a = none := fun a ha => by
    cases e : s₂.heap.get? a with
    | none => rfl
    | some o' => exact absurd (Heap.lt_size e) (Nat.not_lt.mpr ha)
  have off : ∀ a, s₂.heap.objs.size ≤ a → a ∉ Mut := fun a ha hm => by
    obtain ⟨o, ho⟩ := hMo a hm
    rw [fresh a ha] at ho; cases ho
  have ltI : @LT.lt Nat _ I s₂.heap.objs.size := by obtain ⟨o, ho, _⟩ := hit; exact Heap.lt_size ho
  have lta : @LT.lt Nat _ ax s₂.heap.objs.size := by obtain ⟨o, ho, _⟩ := hl; exact Heap.lt_size ho
  have hj1 : J 0 [] h₁ := hfr _ _ _ _ (fun b o _ e => old b o e) hj
  have loop : ∀ s₃ : Shared, s₃ = { s₂ with heap := h₁, toks := s₂.toks + ([] : List (Str × Value)).length } →
      codeAny (model prog w) A (.compLoop (.ListComp elt [⟨.Name x px, iter, [], 0⟩] scope pos) 0 (.ref I) (.ref s₂.heap.objs.size) (compEnvC scope cl H2.objs.size env))
        (RR (.ref s₂.heap.objs.size) H2.objs.size) s₃ := by
    rintro s₃ rfl
    refine mut_outer hh hkind hx hDC (Ne.symm (below I ltI).2) (Ne.symm (below ax lta).2) (Ne.symm (below I ltI).1) (Ne.symm (below ax lta).1) hIa hCle (Nat.le_refl _) (off _ hCle) hMI (off _ (Nat.le_refl _)) hMa hfr old hq hj1 hsz (hit.at fun o e => old _ o e) (hl.at fun o e => old _ o e) hacc hns₁ ?_
    intro h' tk m' ys hns hpl hJ hk
    exact hRR _ _ h' tk m' ys (fresh _ (Nat.le_refl _)) (fresh _ hCle) hDC hns hpl hJ fun b o hb hbM e => hk b o (below b (Heap.lt_size e)).1 hb (below b (Heap.lt_size e)).2 hbM (old b o e)
  exact codeAny_compStart_list (loop _ rfl) (wpAny_pyIter_listiter (hit.at fun o e => old _ o e) (loop _ rfl))

/-- `[elt for x in a list]` as a value, the element changing objects of Mut -/
theorem eval_mut {s : Shared} {elt iter : PySem.Expr} {x : Str} {px : Pos} {scope : Scope} {cl : List (Str × Addr)} {pos : Pos} {Q : Value → Shared → Prop} (Mut : List Addr) (J : Nat → List Value → Heap → Prop)
    (hh : A.handled = none) (hclos : closureFor scope env = pure cl) (hcell : ∀ z ∈ scope.names, z.2 ≠ .cell) (hkind : scope.kind = .function)
    (hnames : ∀ z ∈ scope.names, z.2 = .local → scope.names.lookup z.1 = some .local) (hx : scope.names.lookup x = some .local)
    (h : wpAny (model prog w) A (eval iter env) (fun xv s₁ => ∃ (ax : Addr) (vs : List Value), xv = .ref ax ∧ s₁.heap.IsList ax (List.toArray vs) ∧ vs.length ≤ 100000 ∧ ax ∉ Mut ∧ (∀ b ∈ Mut, ∃ o, s₁.heap.get? b = some o) ∧ MutFrame Mut J ∧ J 0 [] s₁.heap ∧
      MutOk prog w A env scope cl x elt vs Mut J s₁.heap [] ∧
      (∀ D h' tk ys c, s₁.heap.get? D = none → h'.get? D = some (PySem.W.listOf (List.toArray ys) c) → J vs.length ys h' → (∀ b o, b ∉ Mut → s₁.heap.get? b = some o → h'.get? b = some o) → Q (.ref D) { s₁ with heap := h', toks := tk })) E s)
    (hs : ∀ x, foldedSetIterable iter env x = pure x := by intro _; rfl) :
    wpAny (model prog w) A (eval (.ListComp elt [⟨.Name x px, iter, [], 0⟩] scope pos) env) Q E s := by
  rw [eval_ListComp]
  refine wpAny_comprehension_free (use := none) rfl hs hclos hkind hnames (wpAny_mono h (fun xv s₁ h₁ => ?_) fun _ _ e => e)
  obtain ⟨ax, vs, rfl, hl, hsz, hMa, hMo, hfr, hj, hq, hQ⟩ := h₁
  have lta : @LT.lt Nat _ ax s₁.heap.objs.size := by obtain ⟨o, ho, _⟩ := hl; exact Heap.lt_size ho
  have offI : s₁.heap.objs.size ∉ Mut := fun hm => by
    obtain ⟨o, ho⟩ := hMo _ hm
    exact absurd (Heap.lt_size ho) (Nat.lt_irrefl _)
  refine wpAny_pyIter_list hl ?_
  refine mut_block (RR := fun acc C => compPost (model prog w) A E none Q acc C) hh hcell hkind hx (Nat.ne_of_lt lta) offI hMa (fun b hb => ?_) hfr ?_ (hfr _ _ _ _ (fun b o _ e => Heap.get?_push_of_some _ e) hj) hsz ⟨_, Heap.get?_push_size _ rfl, rfl, rfl⟩ (hl.at fun o e => Heap.get?_push_of_some _ e) ?_
  · obtain ⟨o, ho⟩ := hMo b hb
    exact ⟨o, Heap.get?_push_of_some _ ho⟩
  · intro C i v s₃ m₃ E' ys hv hn₃ hx₃ hk₃ hJ₃
    exact hq C i v s₃ m₃ E' ys hv hn₃ hx₃ (fun b o _ hbM e => hk₃ b o (fun hm => absurd (Heap.lt_size e) (by rw [List.mem_singleton.mp hm]; exact Nat.lt_irrefl _)) hbM (Heap.get?_push_of_some _ e)) hJ₃
  · intro D C h' tk m' ys hD hC hDC hnC hpl hJ hk
    have hk' : ∀ b o, b ∉ Mut → s₁.heap.get? b = some o → h'.get? b = some o := fun b o hbM e => hk b o (fun hb => absurd (Heap.lt_size e) (by rw [hb]; exact Nat.lt_irrefl _)) hbM (Heap.get?_push_of_some _ e)
    have none_of : ∀ b, (s₁.heap.push { cls := .type "list_iterator", data := .fields #[.ref ax, .int 0 0] }).get? b = none → s₁.heap.get? b = none := fun b hb => by
      cases q : s₁.heap.get? b with
      | none => rfl
      | some o => have := Heap.get?_push_of_some { cls := .type "list_iterator", data := .fields #[.ref ax, .int 0 0] } q; rw [hb] at this; cases this
    have holdC : ∀ b o, s₁.heap.get? b = some o → b ≠ C := fun b o e hb => by rw [hb, none_of C hC] at e; cases e
    have hCM : C ∉ Mut := fun hm => by
      obtain ⟨o, ho⟩ := hMo C hm
      rw [none_of C hC] at ho; cases ho
    refine ⟨m', hnC, fun h₃ hs₃ => ?_⟩
    have hpl₃ := hpl.extBut hs₃.extBut hDC
    obtain ⟨c, hpl₃⟩ := hpl₃
    exact hQ D h₃ _ ys c (none_of D hD) hpl₃ (hfr _ _ _ _ (fun b o hb e => hs₃.extBut b o (fun q => hCM (q ▸ hb)) e) hJ) (fun b o hbM e => hs₃.extBut b o (holdC b o e) (hk' b o hbM e))

/-- `z = [elt for x in a list]`, the element changing objects of Mut -/
theorem asg_mut {s : Shared} {h₀ : Heap} {elt iter : PySem.Expr} {x z : Str} {px pw : Pos} {scope : Scope} {cl : List (Str × Addr)} {pos spos : Pos} {Q : Flow → Shared → Prop} (Mut : List Addr) (J : Nat → List Value → Heap → Prop)
    (hh : A.handled = none)
    (hsw : swapsWith (.ListComp elt [⟨.Name x px, iter, [], 0⟩] scope pos) (some (.Name z pw)) spos.line env = pure true)
    (hclos : closureFor scope env = pure cl) (hcell : ∀ z ∈ scope.names, z.2 ≠ .cell) (hkind : scope.kind = .function)
    (hnames : ∀ z ∈ scope.names, z.2 = .local → scope.names.lookup z.1 = some .local) (hx : scope.names.lookup x = some .local)
    (hz : env.kindOf z = some .local) (hp : (env.scope.kind == .class || (env.scope.kind == .module && env.locals != env.globals)) = false)
    (h : wpAny (model prog w) A (eval iter env) (fun xv s₁ => ∃ (ax : Addr) (vs : List Value) (m : Str → Option Value), xv = .ref ax ∧ s₁.heap.IsList ax (List.toArray vs) ∧ vs.length ≤ 100000 ∧ Fr h₀ env.locals s₁.heap m ∧ ax ∉ Mut ∧ env.locals ∉ Mut ∧ (∀ b ∈ Mut, (∃ o, s₁.heap.get? b = some o) ∧ h₀.get? b = none) ∧ MutFrame Mut J ∧ J 0 [] s₁.heap ∧
      MutOk prog w A env scope cl x elt vs Mut J s₁.heap [] ∧
      (∀ D h' tk ys c, Fr h₀ env.locals h' (fun u => if u = z then some (.ref D) else m u) → h'.get? D = some (PySem.W.listOf (List.toArray ys) c) → s₁.heap.get? D = none → D ≠ env.locals → J vs.length ys h' → (∀ b o, b ∉ Mut → b ≠ env.locals → s₁.heap.get? b = some o → h'.get? b = some o) →
        Q .next { s₁ with heap := h', toks := tk })) E s)
    (hs : ∀ x, foldedSetIterable iter env x = pure x := by intro _; rfl) :
    wpAny (model prog w) A (exec (.Assign [.Name z pw] (.ListComp elt [⟨.Name x px, iter, [], 0⟩] scope pos) spos) env) Q E s := by
  rw [exec_Assign_Name_used _ _ _ _ hsw]
  refine wpAny_bind (wpAny_standAt (wpAny_bind ?_))
  show wpAny _ A (do let _ ← comprehension (.ListComp elt [⟨.Name x px, iter, [], 0⟩] scope pos) scope env _ (newList []) false (eval iter env) (some (assign (.Name z pw) env))) _ _ s
  refine wpAny_bind (wpAny_mono (wpAny_comprehension_free (use := some (assign (.Name z pw) env)) (Q := fun _ s' => Q .next s') rfl hs hclos hkind hnames
    (wpAny_mono h (fun xv s₁ h₁ => ?_) fun _ _ e => e)) (fun _ s' hq => wpAny_pure (wpAny_pure hq)) fun _ _ e => e)
  obtain ⟨ax, vs, m, rfl, hl, hsz, F, hMa, hML, hMo, hfr, hj, hq, hQ⟩ := h₁
  have lta : @LT.lt Nat _ ax s₁.heap.objs.size := by obtain ⟨o, ho, _⟩ := hl; exact Heap.lt_size ho
  have offI : s₁.heap.objs.size ∉ Mut := fun hm => by
    obtain ⟨⟨o, ho⟩, _⟩ := hMo _ hm
    exact absurd (Heap.lt_size ho) (Nat.lt_irrefl _)
  refine wpAny_pyIter_list hl ?_
  refine mut_block (RR := fun acc C => compPost (model prog w) A E (some (assign (.Name z pw) env)) (fun _ s' => Q .next s') acc C) hh hcell hkind hx (Nat.ne_of_lt lta) offI hMa (fun b hb => ?_) hfr ?_ (hfr _ _ _ _ (fun b o _ e => Heap.get?_push_of_some _ e) hj) hsz ⟨_, Heap.get?_push_size _ rfl, rfl, rfl⟩ (hl.at fun o e => Heap.get?_push_of_some _ e) ?_
  · obtain ⟨⟨o, ho⟩, _⟩ := hMo b hb
    exact ⟨o, Heap.get?_push_of_some _ ho⟩
  · intro C i v s₃ m₃ E' ys hv hn₃ hx₃ hk₃ hJ₃
    exact hq C i v s₃ m₃ E' ys hv hn₃ hx₃ (fun b o _ hbM e => hk₃ b o (fun hm => absurd (Heap.lt_size e) (by rw [List.mem_singleton.mp hm]; exact Nat.lt_irrefl _)) hbM (Heap.get?_push_of_some _ e)) hJ₃
  · intro D C h' tk m' ys hD hC hDC hnC hpl hJ hk
    have hk' : ∀ b o, b ∉ Mut → s₁.heap.get? b = some o → h'.get? b = some o := fun b o hbM e => hk b o (fun hb => absurd (Heap.lt_size e) (by rw [hb]; exact Nat.lt_irrefl _)) hbM (Heap.get?_push_of_some _ e)
    have none_of : ∀ b, (s₁.heap.push { cls := .type "list_iterator", data := .fields #[.ref ax, .int 0 0] }).get? b = none → s₁.heap.get? b = none := fun b hb => by
      cases q : s₁.heap.get? b with
      | none => rfl
      | some o => have := Heap.get?_push_of_some { cls := .type "list_iterator", data := .fields #[.ref ax, .int 0 0] } q; rw [hb] at this; cases this
    have holdC : ∀ b o, s₁.heap.get? b = some o → b ≠ C := fun b o e hb => by rw [hb, none_of C hC] at e; cases e
    have holdD : ∀ b o, s₁.heap.get? b = some o → b ≠ D := fun b o e hb => by rw [hb, none_of D hD] at e; cases e
    have hCM : C ∉ Mut := fun hm => by
      obtain ⟨⟨o, ho⟩, _⟩ := hMo C hm
      rw [none_of C hC] at ho; cases ho
    have hLC : env.locals ≠ C := by obtain ⟨o, _, _, ho, _⟩ := F.ns; exact holdC _ _ ho
    have hLD : env.locals ≠ D := by obtain ⟨o, _, _, ho, _⟩ := F.ns; exact holdD _ _ ho
    show wpAny _ A (assign (.Name z pw) env (.ref D)) _ _ _
    refine wpAny_assign_Name (wpAny_storeName_local hz (F.ns.at' fun o e => hk' _ o hML e) (fun h₂ hn₂ hs₂ => ?_) hp)
    refine ⟨m', hnC.sameBut hs₂ (Ne.symm hLC), fun h₃ hs₃ => ?_⟩
    have hk3 : ∀ b o, b ∉ Mut → b ≠ env.locals → s₁.heap.get? b = some o → h₃.get? b = some o := fun b o hbM hb e => hs₃.extBut b o (holdC b o e) (hs₂.extBut b o hb (hk' b o hbM e))
    have hpl₃ := (hpl.extBut hs₂.extBut (Ne.symm hLD)).extBut hs₃.extBut hDC
    obtain ⟨c, hpl₃⟩ := hpl₃
    have F' : Fr h₀ env.locals h₃ (fun u => if u = z then some (.ref D) else m u) := ⟨hn₂.sameBut hs₃ hLC, fun b o e => hk3 b o (fun hm => by rw [(hMo b hm).2] at e; cases e) (Nat.ne_of_lt (Nat.lt_of_lt_of_le (Heap.lt_size e) F.above)) (F.keep b o e), F.above⟩
    exact hQ D h₃ _ ys c F' hpl₃ (none_of D hD) (Ne.symm hLD) (hfr _ _ _ _ (fun b o hb e => hs₃.extBut b o (fun q => hCM (q ▸ hb)) (hs₂.extBut b o (fun q => hML (q ▸ hb)) e)) hJ) hk3
end
end Mine
namespace Mine
open PySem.Builtin
theorem app_list {prog : Program} {w : World} {A : Around} {E : Value → Shared → Prop} {s : Shared} {h₀ : Heap} {L D : Addr} {m : Str → Option Value} {vs : List Value} {n : Nat} {rest : List (Addr × Obj)} {v : Value} {Q : Value → Shared → Prop}
    (F : Fr h₀ L s.heap m) (N : News h₀ L s.heap ((D, W.listOf vs.toArray n) :: rest)) (hr : ∀ p ∈ rest, p.1 ≠ D) (hsz : vs.length ≤ 100000)
    (h : ∀ h' n', Fr h₀ L h' m → News h₀ L h' ((D, W.listOf (vs ++ [v]).toArray n') :: rest) → Q .none { s with heap := h' }) : wpAny (model prog w) A (call (.builtin "list.append") [.ref D, v]) Q E s := by
  have z := N (D, W.listOf vs.toArray n) (.head _)
  refine wpAny_list_append_plain (hsz := by rw [sizeLine_eq, List.size_toArray]; omega) ⟨n, z.1⟩ fun h' hl hs => ?_
  obtain ⟨n', hl⟩ := hl
  refine h h' n' ⟨F.ns.sameBut hs (Ne.symm z.2.1), fun b ob e => (hs.2 b (fun q => ?_)).trans (F.keep b ob e), F.above⟩ (N.setAt (own := []) (fun _ h => nomatch h) hr hs ?_)
  · rw [q, z.2.2] at e; cases e
  · rw [hl]; simp [W.listOf]
theorem strs_append {vs ws : List Value} {ss ts : List Str} (h : StrsAre vs ss) (h2 : StrsAre ws ts) : StrsAre (vs ++ ws) (ss ++ ts) := by
  induction h with
  | nil => exact h2
  | cons x t _ ih => exact .cons x t ih
theorem ne_base {h : Heap} {a b : Addr} {o : Obj} (ha : h.get? a = some o) (hb : h.get? b = none) : a ≠ b := by
  rintro rfl; rw [ha] at hb; cases hb
theorem mem_swap {α : Type} {a b : List α} {x : α} (h : x ∈ b ++ a) : x ∈ a ++ b := by
  rcases List.mem_append.mp h with h | h
  · exact List.mem_append_right _ h
  · exact List.mem_append_left _ h
theorem strs_eqAt {vs ws : List Value} {ss : List Str} (h1 : StrsAre vs ss) (h2 : StrsAre ws ss) : vs.length = ws.length ∧ ∀ j (a : j < vs.length) (b : j < ws.length), ∀ (A' : Around) s', SeqAt.EqAt A' s' vs[j] ws[j] true := by
  refine ⟨h1.length.trans h2.length.symm, fun j a b A' s' => ?_⟩
  have hj : j < ss.length := h1.length ▸ a
  obtain ⟨t1, e1⟩ := h1.get j _ (List.getElem?_eq_getElem hj)
  obtain ⟨t2, e2⟩ := h2.get j _ (List.getElem?_eq_getElem hj)
  rw [List.getElem?_eq_getElem a] at e1
  rw [List.getElem?_eq_getElem b] at e2
  rw [Option.some.inj e1, Option.some.inj e2]
  have := SeqAt.EqAt.str_str (A := A') (s := s') ss[j] t1 ss[j] t2
  rwa [beq_self_eq_true] at this
theorem same_eqAt {vs ws : List Value} (h : vs = ws) : vs.length = ws.length ∧ ∀ j (a : j < vs.length) (b : j < ws.length), ∀ (A' : Around) s', SeqAt.EqAt A' s' vs[j] ws[j] true := by
  subst h
  exact ⟨rfl, fun j _ _ _ _ => SeqAt.EqAt.same _⟩
section
variable {prog : Program} {w : World} {A : Around} {E : Value → Shared → Prop} {s : Shared} {h₀ : Heap} {L D : Addr} {m : Str → Option Value} {vs : List Value} {n : Nat} {news : List (Addr × Obj)} {v : Value} {Q : Value → Shared → Prop}
theorem app_at (F : Fr h₀ L s.heap m) (N : News h₀ L s.heap news) (hm : (D, W.listOf vs.toArray n) ∈ news) (hsz : vs.length ≤ 100000)
    (h : ∀ h' n', Fr h₀ L h' m → (∀ news', (∀ p ∈ news', p = (D, W.listOf (vs ++ [v]).toArray n') ∨ (p ∈ news ∧ p.1 ≠ D)) → News h₀ L h' news') → Q .none { s with heap := h' }) :
    wpAny (model prog w) A (call (.builtin "list.append") [.ref D, v]) Q E s := by
  have z := N _ hm
  refine wpAny_list_append_plain (hsz := by rw [sizeLine_eq, List.size_toArray]; omega) ⟨n, z.1⟩ fun h' hl hs => ?_
  obtain ⟨n', hl⟩ := hl
  refine h h' n' ⟨F.ns.sameBut hs (Ne.symm z.2.1), fun b ob e => (hs.2 b (fun q => ?_)).trans (F.keep b ob e), F.above⟩ fun news' hn p hp => ?_
  · rw [q, z.2.2] at e; cases e
  · rcases hn p hp with rfl | ⟨h1, h2⟩
    · refine ⟨?_, z.2⟩
      rw [hl]; simp [W.listOf]
    · exact ⟨(hs.2 p.1 h2).trans (N p h1).1, (N p h1).2⟩
theorem app_strs {ss : List Str} {y : Str} {t : Tok} (F : Fr h₀ L s.heap m) (N : News h₀ L s.heap news) (hm : (D, W.listOf vs.toArray n) ∈ news) (hvs : StrsAre vs ss) (hsz : vs.length ≤ 100000)
    (h : ∀ h' n' vs', StrsAre vs' (ss ++ [y]) → vs'.length = vs.length + 1 → Fr h₀ L h' m → (∀ news', (∀ p ∈ news', p = (D, W.listOf (List.toArray vs') n') ∨ (p ∈ news ∧ p.1 ≠ D)) → News h₀ L h' news') → Q .none { s with heap := h' }) :
    wpAny (model prog w) A (call (.builtin "list.append") [.ref D, .str y t]) Q E s :=
  app_at F N hm hsz fun h' n' F' N' => h h' n' _ (strs_append hvs (.cons y t .nil)) (by simp) F' N'
end
theorem slice_refs {vs : List Value} {x y : Int} (h : 0 ≤ x) (h2 : 0 ≤ y) : slicePick vs.toArray (some x) (some y) none = List.toArray ((vs.drop x.toNat).take (y.toNat - x.toNat)) := by
  have e : sliceBounds (some x) (some y) none vs.toArray.size = (((min x.toNat vs.toArray.size : Nat) : Int), ((min y.toNat vs.toArray.size : Nat) : Int), 1) := by
    simp only [sliceBounds, Option.getD_none, show (1 : Int) > 0 by decide, if_true, if_neg (show ¬ (x < 0) by omega), if_neg (show ¬ (y < 0) by omega)]
    congr 1
    · omega
    · congr 1
      omega
  rw [kmk_pick_nat _ e]
  congr 1
  show (vs.drop (min x.toNat vs.toArray.size)).take (min y.toNat vs.toArray.size - min x.toNat vs.toArray.size) = _
  rw [List.size_toArray, kmk_drop_min]
  have hl : (vs.drop x.toNat).length = vs.length - x.toNat := List.length_drop
  rcases Nat.le_total y.toNat vs.length with hy | hy
  · rw [Nat.min_eq_left hy]
    rcases Nat.le_total x.toNat vs.length with hx | hx
    · rw [Nat.min_eq_left hx]
    · rw [List.take_of_length_le (by rw [hl]; omega), List.take_of_length_le (by rw [hl]; omega)]
  · rw [Nat.min_eq_right hy, List.take_of_length_le (by rw [hl]; omega), List.take_of_length_le (by rw [hl]; omega)]
theorem range_one {prog : Program} {w : World} {A : Around} {E : Value → Shared → Prop} {s : Shared} {h₀ : Heap} {L : Addr} {m : Str → Option Value} {news : List (Addr × Obj)} {n : Int} {t : Tok} {Q : Value → Shared → Prop} (F : Fr h₀ L s.heap m) (N : News h₀ L s.heap news)
    (h : ∀ h' tk r a b c, IsRange h' r 0 n 1 a b c → Fr h₀ L h' m → News h₀ L h' news → Q (.ref r) { s with heap := h', toks := tk }) : wpAny (model prog w) A (call (.type "range") [.int n t]) Q E s :=
  call_range_1 (h _ _ _ _ _ _ (IsRange.new ..) (F.push _) (kept_news N fun _ _ e => Heap.get?_push_of_some _ e))
section
open PyProof.V PySem.Spec
variable {prog : Program} {w : World} {A : Around} {E : Value → Shared → Prop} {s : Shared} {env : Env} {h₀ : Heap} {x : Str} {body : List Stmt} {Q : Flow → Shared → Prop}
theorem iter_listK2 {D : Addr} {items : Array Value} {m₀ : Str → Option Value} {news : List (Addr × Obj)} (cs : List Str) (J : Nat → List (Addr × Obj) → Prop) (hh : A.handled = none) (hl : s.heap.IsList D items) (hD : env.locals ≠ D) (F : Fr h₀ env.locals s.heap m₀) (N : News h₀ env.locals s.heap news) (hj : J 0 news)
    (turn : ∀ i v u news₁ h tk I own, i < items.size → items[i]? = some v → J i news₁ → (∀ p ∈ news₁, p.1 ≠ I) → (∀ p ∈ own, p.1 = I ∨ p.1 = D) → (∃ o, h.get? I = some o) → env.locals ≠ I → h₀.get? I = none → Fr h₀ env.locals h (fun y => if y = x then some v else overs cs u m₀ y) → News h₀ env.locals h (news₁ ++ own) →
      wpAny (model prog w) A (execs body env) (LoopStepV h₀ env.locals [I] own (fun m news => (∀ y, y ∉ x :: cs → m y = m₀ y) ∧ J (i + 1) news) { s with heap := h, toks := tk } (fun v s' => Q (.ret v) s') fun s' => Q .next s') E { s with heap := h, toks := tk })
    (done : ∀ u news₁ h tk, J items.size news₁ → Fr h₀ env.locals h (overs (x :: cs) u m₀) → News h₀ env.locals h news₁ → Q .next { s with heap := h, toks := tk }) :
    wpAny (model prog w) A (pyIter (.ref D)) (fun it s₂ => LoopAtV prog w A h₀ env x body Q E it s₂) E s := by
  have lta : @LT.lt Nat _ D s.heap.objs.size := by obtain ⟨o, ho, _⟩ := hl; exact Heap.lt_size ho
  refine wpAny_pyIter_list hl ?_
  refine ⟨s.heap.objs.size, [s.heap.objs.size, D], [s.heap.objs.size], items.size, _, _, m₀, news, fun i m news => (∀ y, y ∉ x :: cs → m y = m₀ y) ∧ J i news, rfl, Walks.list hh s.heap.objs.size D (Nat.ne_of_lt lta) items, ?_, fun b hb => by rw [List.mem_singleton.mp hb]; exact next_is_new F, fun p hp hI => absurd (Heap.lt_size (N p hp).1) (List.mem_singleton.mp hI ▸ Nat.lt_irrefl _), ⟨⟨_, Heap.get?_push_size _ rfl, rfl, rfl⟩, hl.at fun o e => Heap.get?_push_of_some _ e⟩, F.push _, (fun p hp => ⟨Heap.get?_push_of_some _ (N p hp).1, (N p hp).2⟩), ⟨fun _ _ => rfl, hj⟩, ?_, ?_⟩
  · intro hm
    rcases List.mem_cons.mp hm with hm | hm
    · exact Nat.ne_of_lt F.ns.lt hm
    · exact hD (List.mem_singleton.mp hm)
  · rintro i v m₁ news₁ s₁ own ⟨h, tk, rfl⟩ hi hP ⟨hm, hJ⟩ hoff hown hget hback ⟨⟨o, ho, hi1⟩, hi2⟩ F₁ N₁
    rw [over_head hm] at F₁
    refine turn i v m₁ news₁ h tk _ own hi hP hJ (fun p hp e => hoff p hp (List.mem_singleton.mpr e)) (fun p hp => ?_) ⟨o, ho⟩ (Nat.ne_of_lt F.ns.lt) (next_is_new F) F₁ (fun p hp => N₁ p ((List.mem_append.mp hp).elim (List.mem_append_right _) (List.mem_append_left _)))
    rcases List.mem_cons.mp (hown p hp) with e | e
    · exact .inl e
    · exact .inr (List.mem_singleton.mp e)
  · rintro h tk m₁ news₁ F₁ N₁ hoff ⟨hm, hJ⟩
    rw [overs_eq hm] at F₁
    exact done m₁ news₁ h tk hJ F₁ N₁
theorem iter_rangeK2 {r : Addr} {a₀ b₀ : Int} {t₀ u₀ v₀ : Tok} {n : Nat} {m₀ : Str → Option Value} {news : List (Addr × Obj)} (cs : List Str) (J : Nat → List (Addr × Obj) → Prop)
    (hh : A.handled = none) (hr : IsRange s.heap r a₀ b₀ 1 t₀ u₀ v₀) (hsmall : Builtin.Range.small a₀ b₀ 1 = true) (hn : Builtin.Range.rangeSize a₀ b₀ 1 = (n : Int)) (F : Fr h₀ env.locals s.heap m₀) (N : News h₀ env.locals s.heap news) (hj : J 0 news)
    (turn : ∀ i t u news₁ h tk I own, i < n → J i news₁ → (∀ p ∈ news₁, p.1 ≠ I) → (∀ p ∈ own, p.1 = I) → (∃ o, h.get? I = some o) → env.locals ≠ I → h₀.get? I = none → Fr h₀ env.locals h (fun y => if y = x then some (.int (a₀ + (i : Int)) t) else overs cs u m₀ y) → News h₀ env.locals h (news₁ ++ own) →
      wpAny (model prog w) A (execs body env) (LoopStepV h₀ env.locals [I] own (fun m news => (∀ y, y ∉ x :: cs → m y = m₀ y) ∧ J (i + 1) news) { s with heap := h, toks := tk } (fun v s' => Q (.ret v) s') fun s' => Q .next s') E { s with heap := h, toks := tk })
    (done : ∀ u news₁ h tk, J n news₁ → Fr h₀ env.locals h (overs (x :: cs) u m₀) → News h₀ env.locals h news₁ → Q .next { s with heap := h, toks := tk }) :
    wpAny (model prog w) A (pyIter (.ref r)) (fun it s₂ => LoopAtV prog w A h₀ env x body Q E it s₂) E s := by
  refine wpAny_pyIter_range hr hsmall ?_
  have W : Walks prog w A s.heap.objs.size [s.heap.objs.size] [s.heap.objs.size] n (fun i v => i < n ∧ ∃ t, v = .int (a₀ + i * 1) t)
      (fun i h => IsRangeIter h s.heap.objs.size (a₀ + (i : Nat) * 1) ((n : Int) - (i : Nat)) 1) := (Walks.range hh _ a₀ 1 n).bound
  refine ⟨s.heap.objs.size, [s.heap.objs.size], [s.heap.objs.size], n, _, _, m₀, news, fun i m news => (∀ y, y ∉ x :: cs → m y = m₀ y) ∧ J i news, rfl, W, ?_, fun b hb => by rw [List.mem_singleton.mp hb]; exact next_is_new F, fun p hp hI => absurd (Heap.lt_size (N p hp).1) (List.mem_singleton.mp hI ▸ Nat.lt_irrefl _), (by show IsRangeIter _ _ _ _ _; rw [hn]; simpa using Heap.get?_push_size _ rfl), F.push _, (fun p hp => ⟨Heap.get?_push_of_some _ (N p hp).1, (N p hp).2⟩), ⟨fun _ _ => rfl, hj⟩, ?_, ?_⟩
  · intro hm
    exact Nat.ne_of_lt F.ns.lt (List.mem_singleton.mp hm)
  · rintro i v m₁ news₁ s₁ own ⟨h, tk, rfl⟩ hi ⟨_, t, rfl⟩ ⟨hm, hJ⟩ hoff hown hget hback hst F₁ N₁
    rw [over_head hm, Int.mul_one] at F₁
    exact turn i t m₁ news₁ h tk _ own hi hJ (fun p hp e => hoff p hp (List.mem_singleton.mpr e)) (fun p hp => List.mem_singleton.mp (hown p hp)) ⟨_, hst⟩ (Nat.ne_of_lt F.ns.lt) (next_is_new F) F₁ (fun p hp => N₁ p ((List.mem_append.mp hp).elim (List.mem_append_right _) (List.mem_append_left _)))
  · rintro h tk m₁ news₁ F₁ N₁ hoff ⟨hm, hJ⟩
    rw [overs_eq hm] at F₁
    exact done m₁ news₁ h tk hJ F₁ N₁
end
end Mine
namespace Mine
open PySem.Builtin PySem.Sem PySem.MeetsSeq
section
variable {prog : Program} {w : World} {A : Around} {E : Value → Shared → Prop} {s : Shared}
theorem walks_shift {I : Addr} {fp wr : List Addr} {n : Nat} {P P' : Nat → Value → Prop} {St : Nat → Heap → Prop} (W : Walks prog w A I fp wr n P St) (k : Nat) (hP : ∀ j v, P j v → P' (j + k) v) :
    Walks prog w A I fp wr (n + k) P' (fun i h => k ≤ i ∧ St (i - k) h) where
  sub := W.sub
  frame := fun i h h' ⟨a, b⟩ hk => ⟨a, W.frame _ h h' b hk⟩
  item := fun i s Q E hi ⟨hk, st⟩ hQ => W.item (i - k) s Q E (by omega) st fun v h' tk hp st' keep => hQ v h' tk (by have := hP _ v hp; rwa [show i - k + k = i by omega] at this) ⟨by omega, by rwa [show i + 1 - k = i - k + 1 by omega]⟩ keep
  done := fun s Q E ⟨hk, st⟩ hQ => W.done s Q E (by rwa [show n + k - k = n by omega] at st) hQ
  self := fun i s Q E ⟨_, st⟩ hQ => W.self _ s Q E st hQ
/-- xs.extend(an iterator), xs holding items already -/
theorem call_extend_iter {T : String} {I S : Addr} {fp wr : List Addr} {n : Nat} {P P' : Nat → Value → Prop} {St : Nat → Heap → Prop} {Q : Value → Shared → Prop} {pre : Array Value} {c₀ : Nat}
    (hlen : typeLookup (.type T) "__len__" = pure none) (hhint : typeLookup (.type T) "__length_hint__" = pure none) (h2 : (Value.type T == Value.type "list") = false) (h3 : (Value.type T == Value.type "tuple") = false)
    (W₀ : Walks prog w A.in1 I fp wr n P St) (hP : ∀ j v, P j v → P' (j + pre.size) v) (hpre : ItemsOf P' pre pre.size) (hT₀ : ∀ i h, St i h → ∃ o, h.get? I = some o ∧ o.cls = .type T) (hst₀ : St 0 s.heap) (hSf : S ∉ fp) (hI : I ∈ fp)
    (hS : s.heap.get? S = some { cls := .type "list", data := .seq pre c₀ }) (hn : n + pre.size ≤ 100000)
    (hQ : ∀ h' tk acc' c', (∀ b o, b ∉ S :: wr → s.heap.get? b = some o → h'.get? b = some o) → h'.get? S = some { cls := .type "list", dict := none, data := .seq acc' c', slots := #[] } → ItemsOf P' acc' (n + pre.size) → Q .none { s with heap := h', toks := tk }) :
    wpAny (model prog w) A (call (.builtin "list.extend") [.ref S, .ref I]) Q E s := by
  have W := walks_shift W₀ pre.size hP
  have hn' : n + pre.size ≤ sizeLine := by rw [sizeLine_eq]; omega
  have hp' : pre.size ≤ sizeLine := by omega
  have hTS : s.TypeIs (.ref S) "list" := ⟨_, hS, rfl⟩
  have hSI : S ≠ I := fun e => hSf (e ▸ hI)
  have st0 : pre.size ≤ pre.size ∧ St (pre.size - pre.size) s.heap := ⟨Nat.le_refl _, by rw [Nat.sub_self]; exact hst₀⟩
  refine wpAny_call (codeAny_call_builtin F.slot_list_extend.plain F.entry_list_extend (F.slot_list_extend.check _ _ _ _ _ _ _ _ hTS (F.args_list_extend_2 _ _) ?_))
  show wpAny _ A.in1 (Builtin.List.listExtendWith (.ref S) (.ref I) .none) _ _ s
  unfold Builtin.List.listExtendWith
  refine wpAny_bind (wpAny_typeOf (T := T) (hT₀ 0 _ hst₀) ?_)
  have h1 : Builtin.List.listSameRef (.ref S) (.ref I) = false := by simp [Builtin.List.listSameRef, hSI]
  simp only [h1, h2, h3, Bool.or_false, Bool.false_eq_true, if_false]
  refine wpAny_bind (W.self _ _ _ _ st0 ?_)
  refine wpAny_bind (wpAny_holding ?_)
  unfold Builtin.List.listLengthHint
  refine wpAny_bind (wpAny_specialOf (hT₀ 0 _ hst₀) hlen ?_)
  show wpAny _ A.in1 (specialOf (Value.ref I) (Str.ofString "__length_hint__") >>= _) _ _ _
  refine wpAny_bind (wpAny_specialOf (hT₀ 0 _ hst₀) hhint ?_)
  refine wpAny_pure ?_
  show wpAny _ A.in1 (rule "list.extend.makes-room" >>= fun _ => Builtin.List.listTouch (.ref S) >>= fun _ =>
    again (.builtin "list.extend.loop" ⟨[.ref S, .ref I, .none], []⟩)) _ _ _
  refine wpAny_bind (wpAny_rule ?_)
  refine wpAny_bind ?_
  show wpAny _ A.in1 (updateSeq S (·.push .none) >>= fun _ => updateSeq S (·.pop)) _ _ _
  refine wpAny_bind (wpAny_updateSeq (hz := by omega) (_hz' := by rw [Array.size_push]; omega) hS rfl ?_)
  have hS₂ := Heap.get?_update_self (Obj.mapSeq (·.push Value.none)) hS rfl
  refine wpAny_updateSeq (hz := by simp; rw [sizeLine_eq]; omega) (_hz' := by simp; omega) hS₂ rfl ?_
  have hS₃ := Heap.get?_update_self (Obj.mapSeq (·.pop)) hS₂ rfl
  have oth : ∀ b o, b ≠ S → s.heap.get? b = some o → ((s.heap.update S (Obj.mapSeq (·.push Value.none))).update S (Obj.mapSeq (·.pop))).get? b = some o :=
    fun b o hb e => (Heap.get?_update_other _ _ (Ne.symm hb)).trans ((Heap.get?_update_other _ _ (Ne.symm hb)).trans e)
  have hS₄ : ((s.heap.update S (Obj.mapSeq (·.push Value.none))).update S (Obj.mapSeq (·.pop))).get? S = some { cls := .type "list", data := .seq pre (c₀ + 1 + 1) } := by
    rw [hS₃]; simp [Obj.mapSeq]
  refine wpAny_pure ⟨plainId_quiet F.plain_extend_loop _, codeAny_extend_loopS W.toS hn' _ hSf _ n pre.size _ pre _ (by omega) (by omega)
    (W.frame pre.size s.heap _ st0 fun b hb o e => oth b o (fun h => hSf (h ▸ hb)) e) hS₄ hpre fun s' acc' c' hm hS' hacc => ?_⟩
  have hm2 := Moved.trans W.toS.gtrans ((Moved.refl (G := fun a b => b = a) (wr := S :: wr) W.toS.grefl).then_heap (Nat.le_refl _) fun b o hb e => oth b o (fun h => hb (by rw [h]; exact .head _)) e) hm
  rw [Moved.eq_with hm2]
  exact hQ s'.heap s'.toks acc' c' (fun b o hb e => hm2.heap b o hb e) hS' hacc
end
end Mine
namespace Mine
open PySem.Builtin
theorem strs_of_items' {acc : Array Value} {ss : List Str} {n : Nat} (hn : n = ss.length) (h : ItemsOf (fun i v => ∃ x t, ss[i]? = some x ∧ v = Value.str x t) acc n) : StrsAre acc.toList ss := by
  obtain ⟨h1, h2⟩ := h
  have key : ∀ (l : List Value) (ss : List Str), l.length = ss.length → (∀ (j : Nat) (v : Value), l[j]? = some v → ∃ x t, ss[j]? = some x ∧ v = Value.str x t) → StrsAre l ss := by
    intro l
    induction l with
    | nil => intro ss hl _; cases ss with
      | nil => exact .nil
      | cons a b => cases hl
    | cons v l ih =>
      intro ss hl hp
      cases ss with
      | nil => cases hl
      | cons y ss =>
        obtain ⟨x, t, hx, rfl⟩ := hp 0 v rfl
        obtain rfl : y = x := Option.some.inj hx
        exact .cons _ _ (ih ss (by simpa using hl) fun j v hj => hp (j + 1) v hj)
  exact key _ _ (by rw [Array.length_toList, h1, hn]) fun j v hj => h2 j v (by simpa using hj)
section
variable {prog : Program} {w : World} {A : Around} {E : Value → Shared → Prop} {s : Shared}
/-- xs.extend(map(str, ys)), both lists of texts -/
theorem call_extend_map {e tup it l S : Addr} {vs pre : List Value} {ss0 ys : List Str} {c nt : Nat} {Q : Value → Shared → Prop} (hh : A.handled = none)
    (he : IsMap s.heap e tup (.type "str")) (ht : s.heap.get? tup = some { cls := .type "tuple", data := .seq #[.ref it] nt }) (hit : s.heap.IsListIter it l 0) (hl : s.heap.IsList l vs.toArray) (hys : StrsAre vs ys) (hpre : StrsAre pre ss0)
    (hS : s.heap.get? S = some (W.listOf pre.toArray c)) (n1 : e ≠ it) (n2 : tup ≠ it) (n3 : l ≠ it) (m1 : S ≠ e) (m2 : S ≠ tup) (m3 : S ≠ it) (m4 : S ≠ l) (hn : vs.length + pre.length ≤ 100000)
    (hQ : ∀ h' tk acc c', (∀ b o, b ≠ S → b ≠ it → s.heap.get? b = some o → h'.get? b = some o) → h'.get? S = some (W.listOf (List.toArray acc) c') → StrsAre acc (ss0 ++ ys) → Q .none { s with heap := h', toks := tk }) :
    wpAny (model prog w) A (call (.builtin "list.extend") [.ref S, .ref e]) Q E s := by
  obtain ⟨base, hb0⟩ : ∃ base : Heap, base.objs = #[] := ⟨{ objs := #[] }, rfl⟩
  have hbn : ∀ a, base.get? a = none := fun a => by
    cases q : base.get? a with
    | none => rfl
    | some o => have := Heap.lt_size q; rw [hb0] at this; exact absurd this (Nat.not_lt_zero _)
  have W := Walks_map1 (prog := prog) (w := w) (A := A.in1) (by simpa using hh) (base := base) e tup it l (.type "str") vs.toArray nt (fun i v => ∃ x t, ys[i]? = some x ∧ v = .str x t) n1 n2 n3 (by rw [hb0]; exact Nat.zero_le _) (by
    intro i x s1 Q1 E1 hi _ hret
    have hi' : i < ys.length := by rw [← hys.length]; have := (Array.getElem?_eq_some_iff.mp hi).1; simpa using this
    obtain ⟨t, hx⟩ := hys.get i _ (List.getElem?_eq_getElem hi')
    obtain rfl : x = .str ys[i] t := by
      have hi2 : vs[i]? = some x := by simpa using hi
      rw [hi2] at hx; exact Option.some.inj hx
    exact P.str_of_str (hret _ s1.heap s1.toks ⟨_, t, List.getElem?_eq_getElem hi', rfl⟩ fun _ _ e => e))
  refine call_extend_iter (P' := fun i v => ∃ x t, (ss0 ++ ys)[i]? = some x ∧ v = .str x t) map_no_len map_no_hint (by decide) (by decide) W ?_ ?_ (fun i h st => ⟨_, st.2.1, rfl⟩) ⟨fun b o q => by (rw [hbn] at q; cases q), he, ht, hit, hl⟩ ?_ (by simp) hS (by simp; omega) fun h' tk acc' c' hk hS' hacc => ?_
  · rintro j v ⟨x, t, hx, rfl⟩
    refine ⟨x, t, ?_, rfl⟩
    rw [List.size_toArray, hpre.length, List.getElem?_append_right (by omega), Nat.add_sub_cancel]; exact hx
  · refine ⟨rfl, fun j v hj => ?_⟩
    have hj2 : pre[j]? = some v := by simpa using hj
    have hlt : j < ss0.length := by rw [← hpre.length]; exact (List.getElem?_eq_some_iff.mp hj2).1
    obtain ⟨t, ht⟩ := hpre.get j _ (List.getElem?_eq_getElem hlt)
    rw [hj2] at ht
    exact ⟨_, t, by rw [List.getElem?_append_left hlt]; exact List.getElem?_eq_getElem hlt, Option.some.inj ht⟩
  · rw [hb0]
    simp [m1, m2, m3, m4]
  · refine hQ h' tk acc'.toList c' (fun b o h1 h2 e => hk b o (by simp [h1, h2]) e) ?_ (strs_of_items' (by simp [hys.length, hpre.length]; omega) hacc)
    rw [Array.toArray_toList]; exact hS'
end
end Mine
namespace Mine
open PySem.Builtin
theorem fillK {P : Prop} (h : PySem.Challenge.rw_kn0088_06 = PySem.Challenge.rw_kn0088_06 → hd6.heap_39 = hd6.heap_39 → P) : P := h rfl rfl

local macro_rules | `(tactic| walk_at "my steps") => `(tactic| repeat' (first | (k_unfold; (try dsimp only)) | ((fail_if_success (with_reducible show wpAny _ _ (pyIter _) _ _ _)); (fail_if_success (with_reducible show Exists _)); (fail_if_success (with_reducible show wpAny _ _ (exec (Stmt.For _ _ _ _ _) _) _ _ _)); (first | walk1 | (dsimp only; walk1)); (try dsimp only))))

set_option maxHeartbeats 8000000 in
/-- Entry() -/
theorem entry_spec {prog : Program} {w : World} {mean : ExcName → Option Value} {mg mb : Str → Option Value} {A : Around} {s : Shared} {Q E : Value → Shared → Prop}
    (C : Cx (hd6.heap_39 w.params) hd6.view_39 (looseW hd6.view_39 []) mean mg mb A s.heap 6)
    (hQ : ∀ h' tk a dx ua rl t1 t2 t3 t4, s.heap.StaysIn h' → s.heap.get? a = none → s.heap.get? dx = none → s.heap.get? ua = none → s.heap.get? rl = none → Ent w.params h' a dx ua rl [] [] .none .none t1 t2 t3 t4 0 0 →
      dx < a → a < ua → ua < rl → Q (.ref a) { s with heap := h', toks := tk }) : wpAny (model prog w) A (call (.ref 59) []) Q E s := by
  refine fillK ?_
  k_fill
  intro _ _
  have X := C.K
  have T := C.T
  refine wpAny_call ?_
  obtain ⟨hp, g, d, tk0, os⟩ := s
  refine make_core (C := 59) (makes_of X (by k_is)) (looks_findIn X (by k_is)) (fun self => bind_fn X self (by k_is)) (.inl rfl) ?_
  have z1 : (hp.push emptyDict).objs.size = hp.objs.size + 1 := Heap.size_push ..
  have C1 : Cx (hd6.heap_39 w.params) hd6.view_39 (looseW hd6.view_39 []) mean mg mb A ((hp.push emptyDict).push (instObj 59 hp.objs.size)) 6 := C.keep fun b o e => Heap.get?_push_of_some _ (Heap.get?_push_of_some _ e)
  refine fn_code (s := ⟨_, _, _, _, _⟩) (C1.make 59 []) (by k_is) (by k_is) (BindsTo.of_eq rfl) (locs rfl) ?_
  intro L h₁ hL hF0 hN0
  have hF : Fr hp L h₁ _ := ⟨hF0.ns, fun b o e => hF0.keep b o (Heap.get?_push_of_some _ (Heap.get?_push_of_some _ e)), by rw [hL, Heap.size_push, z1]; exact Nat.le_succ_of_le (Nat.le_succ _)⟩
  have gx : ((hp.push emptyDict).push (instObj 59 hp.objs.size)).get? (hp.objs.size + 1) = some (instObj 59 hp.objs.size) := by
    have := Heap.get?_push_size (hp.push emptyDict) (o := instObj 59 hp.objs.size) rfl
    rw [z1] at this; exact this
  have gd : ((hp.push emptyDict).push (instObj 59 hp.objs.size)).get? hp.objs.size = some emptyDict := Heap.get?_push_of_some _ (Heap.get?_push_size _ rfl)
  have none_of : ∀ b, hp.objs.size ≤ b → hp.get? b = none := fun b hb => by
    cases q : hp.get? b with
    | none => rfl
    | some o => exact absurd (Heap.lt_size q) (Nat.not_lt.mpr hb)
  have hN : News hp L h₁ [(hp.objs.size + 1, instObj 59 hp.objs.size), (hp.objs.size, emptyDict)] := by
    intro p hp'
    simp only [List.mem_cons, List.not_mem_nil, or_false] at hp'
    rcases hp' with rfl | rfl
    · exact ⟨hF0.keep _ _ gx, by rw [hL, Heap.size_push, z1]; exact Nat.ne_of_lt (Nat.lt_succ_self _), none_of _ (Nat.le_succ _)⟩
    · exact ⟨hF0.keep _ _ gd, by rw [hL, Heap.size_push, z1]; exact Nat.ne_of_lt (Nat.lt_succ_of_lt (Nat.lt_succ_self _)), none_of _ (Nat.le_refl _)⟩
  clear hF0 hN0
  try dsimp only
  walk_at "my steps"
  rename Fr _ _ _ _ => hF1
  rename News _ _ _ _ => hN1
  rename_i lu _ lu1 _ _ lr _ lr1 _ _ _ _ _
  exact ⟨rfl, hQ _ _ _ _ _ _ _ _ _ _ (fun b o e => hF1.keep b o e) (none_of _ (Nat.le_succ _)) (none_of _ (Nat.le_refl _)) (hN1 _ (.tail _ (.head _))).2.2 (hN1 _ (.head _)).2.2
    ⟨(hN1 _ (.tail _ (.tail _ (.head _)))).1, (hN1 _ (.tail _ (.tail _ (.tail _ (.head _))))).1, (hN1 _ (.tail _ (.head _))).1, (hN1 _ (.head _)).1⟩ (Nat.lt_succ_self _) lu1.1 lr1.1⟩
end Mine
namespace Mine
open PySem.Builtin
local macro_rules | `(tactic| walk_at "my steps") => `(tactic| repeat' (first | (k_unfold; (try dsimp only)) | ((fail_if_success (with_reducible show wpAny _ _ (pyIter _) _ _ _)); (fail_if_success (with_reducible show Exists _)); (fail_if_success (with_reducible show wpAny _ _ (exec (Stmt.For _ _ _ _ _) _) _ _ _)); (fail_if_success (with_reducible show wpAny _ _ (call (Value.type "set") _) _ _ _)); (fail_if_success (with_reducible show wpAny _ _ (call (Value.ref _) _) _ _ _)); (first | walk1 | (dsimp only; walk1)); (try dsimp only))))
local macro_rules | `(tactic| walk_at "getAttr ref") => `(tactic| (k_here; k_dflt (refine' get_own ?k1 ?k2 ?k3 ?k4 ?k5 ?k6 ?k7 ?k8 ?k9 ?_; (case k1 => k_asm); (case k2 => k_asm); (case k3 => exact inst_keep (by assumption) (by assumption)); (case k4 => k_is); (case k5 => k_is); (case k6 => k_is); (case k7 => k_is); (case k8 => k_get); (case k9 => first | k_handed | assumption); k_whole)))

local macro_rules | `(tactic| walk_at "compareOp Is") => `(tactic| (k_here; (refine wpAny_is_plain (by assumption) ?_)))
set_option maxHeartbeats 8000000 in
theorem merge_spec6 {prog : Program} {w : World} {mean : ExcName → Option Value} {mg mb : Str → Option Value} {A : Around} {s : Shared} {a1 dx1 ua1 rl1 a2 dx2 ua2 rl2 : Addr} {vs1 rs1 vs2 rs2 : List Value} {de1 ra1 de2 ra2 : Value}
    {t1 t2 t3 t4 u1 u2 u3 u4 : Tok} {n1 m1 n2 m2 : Nat} {ss1 ss2 : List Str} {Q E : Value → Shared → Prop}
    (C : Cx (hd6.heap_39 w.params) hd6.view_39 (looseW hd6.view_39 []) mean mg mb A s.heap 10)
    (E1 : Ent w.params s.heap a1 dx1 ua1 rl1 vs1 rs1 de1 ra1 t1 t2 t3 t4 n1 m1) (E2 : Ent w.params s.heap a2 dx2 ua2 rl2 vs2 rs2 de2 ra2 u1 u2 u3 u4 n2 m2) (hv1 : StrsAre vs1 ss1) (hv2 : StrsAre vs2 ss2)
    (hs1 : ss1.length ≤ 1000) (hs2 : ss2.length ≤ 1000) (hr1 : rs1.length ≤ 10000) (hr2 : rs2.length ≤ 10000)
    (hd1 : handedIn de1 = true) (hd2 : handedIn de2 = true) (hd3 : handedIn ra1 = true) (hd4 : handedIn ra2 = true) (hp1 : plainIs de2 .none = true) (hp2 : plainIs ra2 .none = true)
    (hQ : ∀ h' tk a dx ua rl vs de ra t1 t2 t3 t4 n m, de = (if de2 == .none then de1 else de2) → ra = (if ra2 == .none then ra1 else ra2) → s.heap.StaysIn h' → s.heap.get? a = none → s.heap.get? dx = none → s.heap.get? ua = none → s.heap.get? rl = none →
      ua ≠ rl → Ent w.params h' a dx ua rl vs (rs1 ++ rs2) de ra t1 t2 t3 t4 n m → StrsAre vs (ss1.filter fun k => ss2.any fun a => decide (k = a)) → Q (.ref a) { s with heap := h', toks := tk }) : wpAny (model prog w) A (call (.ref 70) [.ref a1, .ref a2]) Q E s := by
  refine fillK ?_
  k_fill
  intro _ _
  refine fn_call C (by k_is) (by k_is) rfl (locs rfl) ?_
  intro L h₁ tk hF hN
  have X := C.K
  have T := C.T
  have I1 := E1.inst
  have I2 := E2.inst
  have hl1 : s.heap.IsList ua1 vs1.toArray := ⟨_, E1.uas, rfl, _, rfl⟩
  have hl2 : s.heap.IsList ua2 vs2.toArray := ⟨_, E2.uas, rfl, _, rfl⟩
  have hm1 : s.heap.IsList rl1 rs1.toArray := ⟨_, E1.rls, rfl, _, rfl⟩
  have hm2 : s.heap.IsList rl2 rs2.toArray := ⟨_, E2.rls, rfl, _, rfl⟩
  walk_at "my steps"
  refine entry_spec (((C.deeper _).keep (Fr.keep hF)).le (by decide)) fun h2 tk2 a dx ua rl y1 y2 y3 y4 st2 f1 f2 f3 f4 hE2 o1 o2 o3 => ?_
  have hF2 := kept_fr hF st2
  have hN2 := news_ent hF hN st2 f1 f2 f3 f4 hE2
  have hlt : @LT.lt Nat _ dx a ∧ @LT.lt Nat _ a ua ∧ @LT.lt Nat _ ua rl := ⟨o1, o2, o3⟩
  dsimp only [entD] at hN2
  clear hF hN hE2 o1 o2 o3
  try dsimp only
  walk_at "my steps"
  rename Fr _ _ _ _ => hF3
  rename News _ _ _ _ => hN3
  refine call_set_strs C.hh (hl2.at fun o e => hF3.keep _ _ e) hv2 (by unfold scanBound; omega) fun h4 tk4 n4 hS4 st4 => ?_
  have hF4 := kept_fr hF3 st4
  have hN4 := kept_news hN3 st4
  clear hF3 hN3
  refine getattr_contains' hS4 fun h5 tk5 B5 st5 hB5 f5 z5 => ?_
  have hF5 := kept_fr hF4 st5
  have hN5 := kept_news hN4 st5
  have hS5 := setOf_keep hS4 st5
  clear hF4 hN4
  try dsimp only
  walk_at "my steps"
  refine call_filter_list (hl1.at fun o e => hF5.keep _ _ e) fun h6 he6 hit6 hz6 st6 => ?_
  have hlt1 : ua1 < h5.objs.size := by obtain ⟨o, ho, _⟩ := hl1; exact Heap.lt_size (hF5.keep _ _ ho)
  have hF5' := hF5
  have hN5' := hN5
  try dsimp only
  walk_at "my steps"
  refine call_list_filter (base := h5) C.hh hB5 hS5 he6 hit6 (hl1.at fun o e => st6 _ _ (hF5'.keep _ _ e)) hv1 st6 (Nat.succ_ne_self _) (Nat.ne_of_lt hlt1) (Nat.le_refl _) (by omega) fun h7 tk7 ys7 c7 k7 hg7 hys7 => ?_
  have k57 : ∀ b o, h5.get? b = some o → h7.get? b = some o := fun b o e => k7 b o (Nat.ne_of_lt (Heap.lt_size e)) (st6 b o e)
  have n6 : h6.get? h6.objs.size = none := by
    cases q : h6.get? h6.objs.size with
    | none => rfl
    | some o => exact absurd (Heap.lt_size q) (Nat.lt_irrefl _)
  have hF7 := kept_fr hF5' k57
  have hN7 := news_push (news_fresh (kept_fr hF5' st6) n6 hg7) (kept_news hN5' k57)
  have hlt7 : @LT.lt Nat _ rl h6.objs.size ∧ @LT.lt Nat _ ua h6.objs.size ∧ @LT.lt Nat _ a h6.objs.size ∧ @LT.lt Nat _ dx h6.objs.size := ⟨Heap.lt_size (st6 _ _ (hN5' _ (.head _)).1), Heap.lt_size (st6 _ _ (hN5' _ (.tail _ (.head _))).1), Heap.lt_size (st6 _ _ (hN5' _ (.tail _ (.tail _ (.head _)))).1), Heap.lt_size (st6 _ _ (hN5' _ (.tail _ (.tail _ (.tail _ (.head _))))).1)⟩
  clear hF5' hN5' hF5 hN5
  clear k7 hg7 n6 hz6 hit6 he6 st6
  try dsimp only at hF7 hN7 hlt7
  try dsimp only
  generalize h6.objs.size = D7 at hF7 hN7 hlt7 ⊢
  walk_at "my steps"
  rename_i h8 F8 N8 h9 F9 N9
  have hlt8 : @LT.lt Nat _ D7 h8.objs.size ∧ @LT.lt Nat _ rl h8.objs.size ∧ @LT.lt Nat _ ua h8.objs.size ∧ @LT.lt Nat _ a h8.objs.size ∧ @LT.lt Nat _ dx h8.objs.size := ⟨Heap.lt_size (N8 _ (.head _)).1, Heap.lt_size (N8 _ (.tail _ (.head _))).1, Heap.lt_size (N8 _ (.tail _ (.tail _ (.head _)))).1, Heap.lt_size (N8 _ (.tail _ (.tail _ (.tail _ (.head _))))).1, Heap.lt_size (N8 _ (.tail _ (.tail _ (.tail _ (.tail _ (.head _)))))).1⟩
  clear F8 N8
  try dsimp only at N9
  generalize h8.objs.size = D8 at N9 hlt8 ⊢
  walk_at "my steps"
  all_goals (
    rename Fr _ _ _ _ => hFz
    rename News _ _ _ _ => hNz
    rename StrsAre ys7 _ => hys
    rename (de2 == Value.none) = _ => hc1
    rename (ra2 == Value.none) = _ => hc2
    exact hQ _ _ _ _ _ _ _ _ _ _ _ _ _ _ _ (by rw [hc1]; rfl) (by rw [hc2]; rfl) (fun b o e => hFz.keep b o e) (hNz _ (.tail _ (.tail _ (.tail _ (.tail _ (.head _)))))).2.2 (hNz _ (.tail _ (.tail _ (.tail _ (.tail _ (.tail _ (.head _))))))).2.2 (hNz _ (.tail _ (.head _))).2.2 (hNz _ (.head _)).2.2 (Nat.ne_of_lt hlt8.1) ⟨(hNz _ (.tail _ (.tail _ (.tail _ (.tail _ (.head _)))))).1, (hNz _ (.tail _ (.tail _ (.tail _ (.tail _ (.tail _ (.head _))))))).1, (hNz _ (.tail _ (.head _))).1, (hNz _ (.head _)).1⟩ hys)
end Mine
namespace Mine
open PySem.Builtin
local macro_rules | `(tactic| walk_at "my steps") => `(tactic| repeat' (first | (k_unfold; (try dsimp only)) | ((fail_if_success (with_reducible show wpAny _ _ (pyIter _) _ _ _)); (fail_if_success (with_reducible show Exists _)); (fail_if_success (with_reducible show wpAny _ _ (exec (Stmt.For _ _ _ _ _) _) _ _ _)); (fail_if_success (with_reducible show wpAny _ _ (call (Value.ref _) _) _ _ _)); (fail_if_success (with_reducible show wpAny _ _ (truthy (Value.ref _)) _ _ _)); (fail_if_success (with_reducible show wpAny _ _ (execs (Stmt.Assign _ (PySem.Expr.List _ _) _ :: Stmt.For _ _ _ _ _ :: _) _) _ _ _)); (fail_if_success (with_reducible show wpAny _ _ (call (Value.type "str") _) _ _ _)); (first | walk1 | (dsimp only; walk1)); (try dsimp only))))
local macro_rules | `(tactic| walk_at "getAttr ref") => `(tactic| (k_here; k_dflt (refine' get_own ?k1 ?k2 ?k3 ?k4 ?k5 ?k6 ?k7 ?k8 ?k9 ?_; (case k1 => k_asm); (case k2 => k_asm); (case k3 => exact inst_keep (by assumption) (by assumption)); (case k4 => k_is); (case k5 => k_is); (case k6 => k_is); (case k7 => k_is); (case k8 => k_get); (case k9 => first | k_handed | assumption); k_whole)))

theorem truthy_l {prog : Program} {w : World} {A : Around} {E : Value → Shared → Prop} {s : Shared} {a : Addr} {vs : List Value} {Q : Bool → Shared → Prop} (hl : s.heap.IsList a vs.toArray) (hn : vs.length ≤ 100000)
    (h1 : vs = [] → Q false { s with toks := s.toks + 2 }) (h2 : vs ≠ [] → Q true { s with toks := s.toks + 2 }) : wpAny (model prog w) A (truthy (.ref a)) Q E s := by
  refine wpAny_truthy_list hl (by simp; omega) ?_
  cases vs with
  | nil => exact h1 rfl
  | cons v r => exact h2 (by simp)
def uaLine (x : Str) : Str := Str.ofString "User-agent: " ++ x
/-- a delay and the line that it writes -/
def DlOk (v : Value) (dl : List Str) : Prop := (v = .none ∧ dl = []) ∨ (∃ t, v = .int 0 t ∧ dl = [Str.ofString "Crawl-delay: 0"]) ∨ ∃ t, v = .int 12 t ∧ dl = [Str.ofString "Crawl-delay: 12"]
/-- a rate's own fields -/
abbrev rateD (P : Params) (t1 t2 t3 t4 t5 t6 : Tok) (u r : Addr) (x y : Value) : Obj :=
  dictOf [⟨PyData.keyHash P (Str.ofString "useragents"), .str (Str.ofString "useragents") t1, .ref u⟩, ⟨PyData.keyHash P (Str.ofString "rulelines"), .str (Str.ofString "rulelines") t2, .ref r⟩,
    ⟨PyData.keyHash P (Str.ofString "delay"), .str (Str.ofString "delay") t3, .none⟩, ⟨PyData.keyHash P (Str.ofString "req_rate"), .str (Str.ofString "req_rate") t4, .none⟩,
    ⟨PyData.keyHash P (Str.ofString "requests"), .str (Str.ofString "requests") t5, x⟩, ⟨PyData.keyHash P (Str.ofString "seconds"), .str (Str.ofString "seconds") t6, y⟩] 6
def RateIs (P : Params) (h : Heap) (q : Addr) (a b : Int) : Prop := ∃ dq u r t1 t2 t3 t4 t5 t6 t7 t8, h.get? q = some (instObj 59 dq) ∧ h.get? dq = some (rateD P t1 t2 t3 t4 t5 t6 u r (.int a t7) (.int b t8))
/-- a rate and the line that it writes -/
def RaOk (P : Params) (h : Heap) (v : Value) (ql : List Str) : Prop := (v = .none ∧ ql = []) ∨ (∃ q, v = .ref q ∧ RateIs P h q 0 1 ∧ ql = [Str.ofString "Request-rate: 0/1"]) ∨ ∃ q, v = .ref q ∧ RateIs P h q 30 7 ∧ ql = [Str.ofString "Request-rate: 30/7"]
def linesOf (ss dl ql rr : List Str) : List Str := ss.map uaLine ++ dl ++ ql ++ (if rr = [] then [Str.ofString "Allow:"] else rr)
def textOf (ss dl ql rr : List Str) : Str := if ss = [] then Str.ofString "" else Txt.join (Str.ofString "\n") (linesOf ss dl ql rr)
theorem DlOk.le {v : Value} {dl : List Str} (h : DlOk v dl) : (∀ y ∈ dl, y.length ≤ 120) ∧ dl.length ≤ 1 := by
  rcases h with ⟨_, rfl⟩ | ⟨_, _, rfl⟩ | ⟨_, _, rfl⟩
  · exact ⟨(fun _ h => nomatch h), Nat.zero_le _⟩
  · refine ⟨fun y hy => ?_, Nat.le_refl _⟩
    rw [List.mem_singleton.mp hy]; decide
  · refine ⟨fun y hy => ?_, Nat.le_refl _⟩
    rw [List.mem_singleton.mp hy]; decide
theorem RaOk.le {P : Params} {h : Heap} {v : Value} {ql : List Str} (h : RaOk P h v ql) : (∀ y ∈ ql, y.length ≤ 120) ∧ ql.length ≤ 1 := by
  rcases h with ⟨_, rfl⟩ | ⟨_, _, _, rfl⟩ | ⟨_, _, _, rfl⟩
  · exact ⟨(fun _ h => nomatch h), Nat.zero_le _⟩
  · refine ⟨fun y hy => ?_, Nat.le_refl _⟩
    rw [List.mem_singleton.mp hy]; decide
  · refine ⟨fun y hy => ?_, Nat.le_refl _⟩
    rw [List.mem_singleton.mp hy]; decide
theorem linesOf_le {ss dl ql rr : List Str} (h1 : ∀ x ∈ ss, x.length ≤ 100) (h2 : ∀ y ∈ dl, y.length ≤ 120) (h3 : ∀ y ∈ ql, y.length ≤ 120) (h4 : ∀ x ∈ rr, x.length ≤ 100) : ∀ y ∈ linesOf ss dl ql rr, y.length ≤ 120 := by
  intro y hy
  rcases List.mem_append.mp hy with hy | hy
  · rcases List.mem_append.mp hy with hy | hy
    · rcases List.mem_append.mp hy with hy | hy
      · obtain ⟨x, hx, rfl⟩ := List.mem_map.mp hy
        have := h1 x hx
        rw [uaLine, Str.length_append]
        have e : (Str.ofString "User-agent: ").length = 12 := by decide
        omega
      · exact h2 y hy
    · exact h3 y hy
  · split at hy
    · rw [List.mem_singleton.mp hy]; decide
    · exact Nat.le_trans (h4 y hy) (by decide)
theorem lines_fit {l : List Str} (h : ∀ y ∈ l, y.length ≤ 120) (hn : l.length ≤ 1000) : (l.map (·.length)).sum + l.length * (Str.ofString "\n").length ≤ 16777216 := by
  have h1 : (l.map (·.length)).sum ≤ (l.map (·.length)).length * 120 := sum_le_mul fun x hx => by
    obtain ⟨y, hy, rfl⟩ := List.mem_map.mp hx
    exact h y hy
  have e : (Str.ofString "\n").length = 1 := by decide
  rw [List.length_map] at h1
  rw [e]
  omega
set_option maxHeartbeats 8000000 in
theorem str_spec {prog : Program} {w : World} {mean : ExcName → Option Value} {mg mb : Str → Option Value} {A : Around} {s : Shared} {a1 dx1 ua1 rl1 : Addr} {vs1 rs1 : List Value} {de1 ra1 : Value}
    {t1 t2 t3 t4 : Tok} {n1 m1 : Nat} {ss1 rr1 : List Str} {Q E : Value → Shared → Prop}
    (C : Cx (hd6.heap_39 w.params) hd6.view_39 (looseW hd6.view_39 []) mean mg mb A s.heap 14)
    (E1 : Ent w.params s.heap a1 dx1 ua1 rl1 vs1 rs1 de1 ra1 t1 t2 t3 t4 n1 m1) (hs1 : StrsAre vs1 ss1) (hr1 : StrsAre rs1 rr1)
    {dl1 ql1 : List Str} (hd1 : handedIn de1 = true) (hd3 : handedIn ra1 = true) (hdl : DlOk de1 dl1) (hql : RaOk w.params s.heap ra1 ql1) (hv3 : vs1.length ≤ 300) (hr3 : rs1.length ≤ 300) (hvb : ∀ x ∈ ss1, x.length ≤ 100) (hrb : ∀ x ∈ rr1, x.length ≤ 100)
    (hQ : ∀ h' tk t, s.heap.StaysIn h' → Q (.str (textOf ss1 dl1 ql1 rr1) t) { s with heap := h', toks := tk }) : wpAny (model prog w) A (call (.type "str") [.ref a1]) Q E s := by
  refine fillK ?_
  k_fill
  intro _ _
  have X := C.K
  have T := C.T
  have I1 := E1.inst
  have hl1 : s.heap.IsList ua1 vs1.toArray := ⟨_, E1.uas, rfl, _, rfl⟩
  have hm1 : s.heap.IsList rl1 rs1.toArray := ⟨_, E1.rls, rfl, _, rfl⟩
  refine kso_call (by have := C.un; show A.units + 1 + 1 < _; omega) X I1 (by k_is) (by k_is) ?_
  refine wpAny_call ?_
  refine fn_code C.in1.in1 (by k_is) (by k_is) (BindsTo.of_eq rfl) (locs rfl) ?_
  intro L h₁ hL hF hN
  walk_at "my steps"
  refine truthy_l (hl1.at fun o e => hF.keep _ _ e) (by omega) (fun h0 => ?_) (fun h0 => ?_)
  · try dsimp only
    walk_at "my steps"
    have e0 : ss1 = [] := by
      have := hs1.length
      rw [h0] at this; exact List.length_eq_zero_iff.mp this.symm
    have := hQ h₁ (tk + 1) tk fun b o e => hF.keep b o e
    rw [textOf, if_pos e0] at this
    exact this
  · try dsimp only
    walk_at "my steps"
    refine wpAny_execs_cons ?_
    try dsimp only
    walk_at "my steps"
    rename Fr _ _ _ _ => hF1
    rename News _ _ _ _ => hN1
    rename_i lr _ lr1 _
    replace hF1 := fr_as (m' := fun y => if y = Str.ofString "ret" then some (Value.ref lr) else if y = Str.ofString "self" then some (.ref a1) else none) hF1 (by
      funext y
      show (if y = Str.ofString "ret" then some (Value.ref lr) else List.lookup y [(Str.ofString "self", Value.ref a1)]) = _
      rw [lookup_cons_if]; rfl)
    refine' For_invV s.heap ?q1 ?q2 ?_ ?q3 ?q4
    case q1 => exact rfl
    case q2 => exact rfl
    case q3 => intro _; rfl
    case q4 => passes_own
    walk_at "my steps"
    have hUr : ua1 ≠ lr := ne_base E1.uas (hN1 _ (.head _)).2.2
    refine iter_listK [] (fun i news => ∃ vs c, news = [(lr, W.listOf (List.toArray vs) c)] ∧ StrsAre vs ((ss1.take i).map uaLine) ∧ vs.length ≤ i) C.hh (hl1.at fun o e => hF1.keep _ _ e) (by obtain ⟨o, ho, _⟩ := hl1; rw [hL]; exact (Nat.ne_of_lt (Heap.lt_size ho)).symm) hF1 hN1 ⟨[], 0, rfl, .nil, Nat.le_refl _⟩ ?_ ?_
    · rintro i v u news₁ h3 tk3 I own hi hv ⟨vs, c, rfl, hvs, hvl⟩ hoff hown hlt hF3 hN3
      simp only [overs] at hF3
      have hi' : i < ss1.length := by rw [← hs1.length]; simpa using hi
      have hi300 : i < 300 := by have := hs1.length; omega
      have hx : ss1[i]? = some ss1[i] := List.getElem?_eq_getElem hi'
      obtain ⟨tx, hvx⟩ := hs1.get i _ hx
      obtain rfl : v = .str ss1[i] tx := by
        have hv' : vs1[i]? = some v := by simpa using hv
        rw [hv'] at hvx; exact Option.some.inj hvx
      clear hF1 hN1
      have hxl : ss1[i].length ≤ 100 := hvb _ (List.getElem_mem hi')
      generalize ss1[i] = x at hx hxl hF3 ⊢
      have hvsK := Hid.mk hvs
      clear hvs
      try dsimp only
      walk_at "my steps"
      rename Fr _ _ _ _ => hF4
      rename News _ _ _ _ => hN4
      refine app_strs hF4 hN4 (.head _) hvsK.out (by omega) fun h5 n5 vs5 hv5 hl5 hF5 hN5 => ?_
      try dsimp only
      walk_at "my steps"
      refine LoopStepU.intro hF5 (news₂ := [(lr, W.listOf (List.toArray vs5) n5)]) (hN5 _ fun p hp => ?_) (fun p hp => ?_) ⟨?_, _, _, rfl, ?_, by omega⟩
      · rcases List.mem_append.mp hp with hp | hp
        · refine .inr ⟨List.mem_append_right _ hp, ?_⟩
          rcases hown p hp with e | e
          · rw [e]; exact (hoff _ (.head _)).symm
          · rw [e]; exact hUr
        · rw [List.mem_singleton.mp hp]
          exact .inl rfl
      · rw [List.mem_singleton.mp hp, List.mem_singleton]
        exact hoff (lr, W.listOf vs.toArray c) (.head _)
      · intro y hy
        simp only [List.mem_cons, List.not_mem_nil, or_false] at hy
        simp only [hy, if_false]
      · rw [List.take_add_one, hx, List.map_append]
        exact hv5
    · rintro u news₁ h3 tk3 ⟨vs, c, rfl, hvs, hvl⟩ hF3 hN3
      simp only [overs] at hF3
      clear hF1 hN1
      have hsz : vs1.toArray.size = ss1.length := by rw [List.size_toArray, hs1.length]
      rw [hsz, List.take_length] at hvs
      have hvl2 : vs.length ≤ 300 := by rw [hsz, ← hs1.length] at hvl; omega
      have hvsK := Hid.mk hvs
      clear hvs
      try dsimp only
      refine wpAny_execs_cons (wpAny_mono (Q := fun f s' => f = .next ∧ ∃ h' tk vs' c', s' = { heap := h', gens := s.gens, drawn := s.drawn, toks := tk, os := s.os } ∧ Fr s.heap L h' (fun y => if y = Str.ofString "agent" then u (Str.ofString "agent") else if y = Str.ofString "ret" then some (Value.ref lr) else if y = Str.ofString "self" then some (.ref a1) else none) ∧ News s.heap L h' [(lr, W.listOf (List.toArray vs') c')] ∧ StrsAre vs' (ss1.map uaLine ++ dl1) ∧ vs'.length ≤ 301) (E := fun _ _ => False) ?_ (fun f s' hf => ?_) (fun _ _ e => e))
      · walk_at "my steps"
        have fin : ∀ h' tk vs' c', Fr s.heap L h' (fun y => if y = Str.ofString "agent" then u (Str.ofString "agent") else if y = Str.ofString "ret" then some (Value.ref lr) else if y = Str.ofString "self" then some (.ref a1) else none) → News s.heap L h' [(lr, W.listOf (List.toArray vs') c')] → StrsAre vs' (ss1.map uaLine ++ dl1) → vs'.length ≤ 301 →
            ∃ h'' tk'' vs'' c'', (⟨h', s.gens, s.drawn, tk, s.os⟩ : Shared) = { heap := h'', gens := s.gens, drawn := s.drawn, toks := tk'', os := s.os } ∧ Fr s.heap L h'' (fun y => if y = Str.ofString "agent" then u (Str.ofString "agent") else if y = Str.ofString "ret" then some (Value.ref lr) else if y = Str.ofString "self" then some (.ref a1) else none) ∧ News s.heap L h'' [(lr, W.listOf (List.toArray vs'') c'')] ∧ StrsAre vs'' (ss1.map uaLine ++ dl1) ∧ vs''.length ≤ 301 :=
          fun h' tk vs' c' F' N' hv' hl' => ⟨h', tk, vs', c', rfl, F', N', hv', hl'⟩
        rcases hdl with ⟨rfl, rfl⟩ | ⟨td, rfl, rfl⟩ | ⟨td, rfl, rfl⟩
        · refine wpAny_isNot_plain rfl ?_
          rw [show (!(Value.none == Value.none)) = false from rfl]
          try dsimp only
          walk_at "my steps"
          exact fin _ _ _ _ hF3 hN3 (by rw [List.append_nil]; exact hvsK.out) (by omega)
        · refine wpAny_isNot_plain rfl ?_
          rw [show (!(Value.int 0 td == Value.none)) = true from rfl]
          try dsimp only
          walk_at "my steps"
          rename Fr _ _ _ _ => hFz
          rename News _ _ _ _ => hNz
          rw [List.push_toArray] at hNz
          exact fin _ _ _ _ hFz hNz (strs_append hvsK.out (.cons _ _ .nil)) (by simp; omega)
        · refine wpAny_isNot_plain rfl ?_
          rw [show (!(Value.int 12 td == Value.none)) = true from rfl]
          try dsimp only
          walk_at "my steps"
          rename Fr _ _ _ _ => hFz
          rename News _ _ _ _ => hNz
          rw [List.push_toArray] at hNz
          exact fin _ _ _ _ hFz hNz (strs_append hvsK.out (.cons _ _ .nil)) (by simp; omega)
      · obtain ⟨rfl, h4, tk4, vs4, c4, rfl, hF4, hN4, hvs4, hvl4⟩ := hf
        have hvs4K := Hid.mk hvs4
        clear hvs4 hF3 hN3 hvsK
        try dsimp only
        refine wpAny_execs_cons (wpAny_mono (Q := fun f s' => f = .next ∧ ∃ h' tk vs' c' r, s' = { heap := h', gens := s.gens, drawn := s.drawn, toks := tk, os := s.os } ∧ Fr s.heap L h' (fun y => if y = Str.ofString "rate" then r else if y = Str.ofString "agent" then u (Str.ofString "agent") else if y = Str.ofString "ret" then some (Value.ref lr) else if y = Str.ofString "self" then some (.ref a1) else none) ∧ News s.heap L h' [(lr, W.listOf (List.toArray vs') c')] ∧ StrsAre vs' (ss1.map uaLine ++ dl1 ++ ql1) ∧ vs'.length ≤ 302) (E := fun _ _ => False) ?_ (fun f s' hf => ?_) (fun _ _ e => e))
        · have fin : ∀ h' tk vs' c' r, Fr s.heap L h' (fun y => if y = Str.ofString "rate" then r else if y = Str.ofString "agent" then u (Str.ofString "agent") else if y = Str.ofString "ret" then some (Value.ref lr) else if y = Str.ofString "self" then some (.ref a1) else none) → News s.heap L h' [(lr, W.listOf (List.toArray vs') c')] → StrsAre vs' (ss1.map uaLine ++ dl1 ++ ql1) → vs'.length ≤ 302 →
              ∃ h'' tk'' vs'' c'' r, (⟨h', s.gens, s.drawn, tk, s.os⟩ : Shared) = { heap := h'', gens := s.gens, drawn := s.drawn, toks := tk'', os := s.os } ∧ Fr s.heap L h'' (fun y => if y = Str.ofString "rate" then r else if y = Str.ofString "agent" then u (Str.ofString "agent") else if y = Str.ofString "ret" then some (Value.ref lr) else if y = Str.ofString "self" then some (.ref a1) else none) ∧ News s.heap L h'' [(lr, W.listOf (List.toArray vs'') c'')] ∧ StrsAre vs'' (ss1.map uaLine ++ dl1 ++ ql1) ∧ vs''.length ≤ 302 :=
            fun h' tk vs' c' r F' N' hv' hl' => ⟨h', tk, vs', c', r, rfl, F', N', hv', hl'⟩
          rcases hql with ⟨rfl, rfl⟩ | ⟨q, rfl, ⟨dq, uq, rq, y1, y2, y3, y4, y5, y6, y7, y8, hq1, hq2⟩, rfl⟩ | ⟨q, rfl, ⟨dq, uq, rq, y1, y2, y3, y4, y5, y6, y7, y8, hq1, hq2⟩, rfl⟩
          · walk_at "my steps"
            rename Fr _ _ _ _ => hF4
            rename News _ _ _ _ => hN4
            exact fin _ _ _ _ none (fr_as hF4 (upd_new _ _ rfl)) hN4 (by rw [List.append_nil]; exact hvs4K.out) (by omega)
          · have Iq : W.InstAt s.heap q (instObj 59 dq) 59 (some (rateD w.params y1 y2 y3 y4 y5 y6 uq rq (.int 0 y7) (.int 1 y8))) := ⟨hq1, rfl, rfl, hq2⟩
            walk_at "my steps"
            rename Fr _ _ _ _ => hFz
            rename News _ _ _ _ => hNz
            rw [List.push_toArray] at hNz
            exact fin _ _ _ _ _ hFz hNz (strs_append hvs4K.out (.cons _ _ .nil)) (by simp; omega)
          · have Iq : W.InstAt s.heap q (instObj 59 dq) 59 (some (rateD w.params y1 y2 y3 y4 y5 y6 uq rq (.int 30 y7) (.int 7 y8))) := ⟨hq1, rfl, rfl, hq2⟩
            walk_at "my steps"
            rename Fr _ _ _ _ => hFz
            rename News _ _ _ _ => hNz
            rw [List.push_toArray] at hNz
            exact fin _ _ _ _ _ hFz hNz (strs_append hvs4K.out (.cons _ _ .nil)) (by simp; omega)
        · obtain ⟨rfl, h6, tk6, vs6, c6, r6, rfl, hF6, hN6, hvs6, hvl6⟩ := hf
          have hvs6K := Hid.mk hvs6
          clear hvs6 hF4 hN4 hvs4K
          try dsimp only
          walk_at "my steps"
          have hne : ss1 ≠ [] := fun e => h0 (List.length_eq_zero_iff.mp (by rw [hs1.length, e]; rfl))
          have hLe := linesOf_le hvb hdl.le.1 hql.le.1 hrb
          have hLn : (linesOf ss1 dl1 ql1 rr1).length ≤ 1000 := by
            have h1 := hs1.length; have h2 := hr1.length; have h3 := hdl.le.2; have h4 := hql.le.2
            simp only [linesOf, List.length_append, List.length_map]
            split <;> simp <;> omega
          have hT : textOf ss1 dl1 ql1 rr1 = Txt.join (Str.ofString "\n") (linesOf ss1 dl1 ql1 rr1) := if_neg hne
          rw [hT] at hQ
          refine truthy_l (hm1.at fun o e => hF6.keep _ _ e) (by omega) (fun h0 => ?_) (fun h0 => ?_)
          · have er : rr1 = [] := by
              have := hr1.length
              rw [h0] at this; exact List.length_eq_zero_iff.mp this.symm
            try dsimp only
            walk_at "my steps"
            rename Fr _ _ _ _ => hFz
            rename News _ _ _ _ => hNz
            rw [List.push_toArray] at hNz
            refine join_list (ys := linesOf ss1 dl1 ql1 rr1) (News.isList hNz (.head _)) (by rw [linesOf, if_pos er]; exact strs_append hvs6K.out (.cons _ _ .nil)) (lines_fit hLe hLn) fun t' k => ?_
            exact hQ _ _ _ fun b o e => hFz.keep b o e
          · have er : rr1 ≠ [] := fun e => h0 (List.length_eq_zero_iff.mp (by rw [hr1.length, e]; rfl))
            try dsimp only
            walk_at "my steps"
            refine call_map_list (hm1.at fun o e => hF6.keep _ _ e) fun h7 he7 ht7 hit7 hz7 st7 => ?_
            have zl : @LT.lt Nat _ lr h6.objs.size := Heap.lt_size (hN6 _ (.head _)).1
            have zr : @LT.lt Nat _ rl1 h6.objs.size := Heap.lt_size (hF6.keep _ _ E1.rls)
            have zu : lr ≠ rl1 := Ne.symm (ne_base E1.rls (hN6 _ (.head _)).2.2)
            have zb : ∀ b o, s.heap.get? b = some o → @LT.lt Nat _ b h6.objs.size := fun b o e => Heap.lt_size (hF6.keep b o e)
            have zL : @LT.lt Nat _ L h6.objs.size := hF6.ns.lt
            have hF7 := kept_fr hF6 st7
            have hN7 := kept_news hN6 st7
            try dsimp only
            try dsimp only at he7 ht7 hit7 hF7 hN7
            generalize h6.objs.size = z at he7 ht7 hit7 zl zr zb zL ⊢
            walk_at "my steps"
            refine call_extend_map C.hh he7 ht7 hit7 (hm1.at fun o e => hF7.keep _ _ e) hr1 hvs6K.out (hN7 _ (.head _)).1 (Nat.ne_of_gt (by omega)) (Nat.ne_of_gt (by omega)) (Nat.ne_of_lt zr) (Nat.ne_of_lt (by omega)) (Nat.ne_of_lt (by omega)) (Nat.ne_of_lt zl) zu (by omega) fun h8 tk8 vs8 c8 hk8 hS8 hvs8 => ?_
            have hLz := (hN7 _ (.head _)).2
            have hF8 : Fr s.heap L h8 _ := ⟨hF7.ns.at' fun o e => hk8 L o (Ne.symm hLz.1) (Nat.ne_of_lt zL) e, fun b o e => hk8 b o (ne_base e hLz.2) (Nat.ne_of_lt (zb b o e)) (hF7.keep b o e), hF7.above⟩
            have hN8 : News s.heap L h8 [(lr, W.listOf (List.toArray vs8) c8)] := news_push ⟨hS8, hLz⟩ News.nil
            have hvs8K := Hid.mk hvs8
            clear hvs8 hF7 hN7 hF6 hN6
            try dsimp only
            walk_at "my steps"
            refine join_list (ys := linesOf ss1 dl1 ql1 rr1) (News.isList hN8 (.head _)) (by rw [linesOf, if_neg er]; exact hvs8K.out) (lines_fit hLe hLn) fun t' k => ?_
            exact hQ _ _ _ fun b o e => hF8.keep b o e
end Mine
namespace Mine
open PySem.Builtin
local macro_rules | `(tactic| walk_at "my steps") => `(tactic| repeat' (first | (k_unfold; (try dsimp only)) | ((fail_if_success (with_reducible show wpAny _ _ (pyIter _) _ _ _)); (fail_if_success (with_reducible show Exists _)); (fail_if_success (with_reducible show wpAny _ _ (exec (Stmt.For _ _ _ _ _) _) _ _ _)); (fail_if_success (with_reducible show wpAny _ _ (call _ _) _ _ _)); (first | walk1 | (dsimp only; walk1)); (try dsimp only))))

/-- the live objects of a heap that a base has not, but one -/
theorem heap_rest (h₀ h : Heap) (D : Addr) : ∃ rest : List (Addr × Obj), (∀ b o, h.get? b = some o → h₀.get? b = none → b ≠ D → (b, o) ∈ rest) ∧ ∀ p ∈ rest, h.get? p.1 = some p.2 ∧ h₀.get? p.1 = none ∧ p.1 ≠ D := by
  refine ⟨(List.range h.objs.size).filterMap fun b => match h.get? b, h₀.get? b with
    | some o, none => if b = D then none else some (b, o)
    | _, _ => none, fun b o h1 h2 h3 => ?_, fun p hp => ?_⟩
  · refine List.mem_filterMap.mpr ⟨b, List.mem_range.mpr (Heap.lt_size h1), ?_⟩
    simp only [h1, h2, if_neg h3]
  · obtain ⟨b, _, hb⟩ := List.mem_filterMap.mp hp
    cases q1 : h.get? b with
    | none => simp only [q1] at hb; cases hb
    | some o =>
      cases q2 : h₀.get? b with
      | some o' => simp only [q1, q2] at hb; cases hb
      | none =>
        simp only [q1, q2] at hb
        split at hb
        · cases hb
        · rename_i hne
          obtain rfl := Option.some.inj hb
          exact ⟨q1, q2, hne⟩
theorem kl_last_app (l : List Value) (y : Value) : kl_last (l ++ [y]) = some (l, y) := by
  induction l with
  | nil => rfl
  | cons x r ih => show (match kl_last (r ++ [y]) with | some (p, y) => some (x :: p, y) | none => some ([], x)) = _; rw [ih]
theorem RaOk.keep {P : Params} {h h' : Heap} {v : Value} {ql : List Str} {D : Addr} {its : Array Value} {n : Nat} (r : RaOk P h v ql) (hD : h.get? D = some (W.listOf its n)) (k : ∀ b o, b ≠ D → h.get? b = some o → h'.get? b = some o) : RaOk P h' v ql := by
  have go : ∀ {q : Addr} {a b : Int}, RateIs P h q a b → RateIs P h' q a b := by
    rintro q a b ⟨dq, u, r, t1, t2, t3, t4, t5, t6, t7, t8, h1, h2⟩
    refine ⟨dq, u, r, t1, t2, t3, t4, t5, t6, t7, t8, k _ _ ?_ h1, k _ _ ?_ h2⟩
    · rintro rfl
      rw [hD] at h1
      have := congrArg Obj.cls (Option.some.inj h1)
      simp [W.listOf, instObj, dictOf] at this
    · rintro rfl
      rw [hD] at h2
      have := congrArg Obj.cls (Option.some.inj h2)
      simp [W.listOf, instObj, dictOf] at this
  rcases r with h | ⟨q, e, h, e2⟩ | ⟨q, e, h, e2⟩
  · exact .inl h
  · exact .inr (.inl ⟨q, e, go h, e2⟩)
  · exact .inr (.inr ⟨q, e, go h, e2⟩)

def seen : Str := Str.ofString "seen"
set_option maxHeartbeats 8000000 in
theorem whole_spec {prog : Program} {w : World} {mean : ExcName → Option Value} {mg mb : Str → Option Value} {A : Around} {s : Shared} {h₀ : Heap} {a1 dx1 ua1 rl1 : Addr} {vs1 rs1 : List Value} {de1 ra1 : Value}
    {t1 t2 t3 t4 : Tok} {n1 m1 : Nat} {ss1 rr1 dl1 ql1 : List Str} {Q E : Value → Shared → Prop}
    (C : Cx (hd6.heap_39 w.params) hd6.view_39 (looseW hd6.view_39 []) mean mg mb A h₀ 18) (hk0 : h₀.StaysIn s.heap) (hz0 : h₀.objs.size ≤ s.heap.objs.size) (hu0 : h₀.get? ua1 = none)
    (E1 : Ent w.params s.heap a1 dx1 ua1 rl1 vs1 rs1 de1 ra1 t1 t2 t3 t4 n1 m1) (hs1 : StrsAre vs1 ss1) (hr1 : StrsAre rs1 rr1)
    (hd1 : handedIn de1 = true) (hd3 : handedIn ra1 = true) (hdl : DlOk de1 dl1) (hql : RaOk w.params s.heap ra1 ql1) (hv3 : vs1.length ≤ 299) (hr3 : rs1.length ≤ 300) (hvb : ∀ x ∈ ss1, x.length ≤ 100) (hrb : ∀ x ∈ rr1, x.length ≤ 100)
    (n1' : a1 ≠ ua1) (n2' : dx1 ≠ ua1) (n3' : rl1 ≠ ua1) (f1 : h₀.get? a1 = none) (f2 : h₀.get? dx1 = none) (f3 : h₀.get? rl1 = none)
    (hQ : ∀ h' tk t n', (∀ b o, b ≠ ua1 → s.heap.get? b = some o → h'.get? b = some o) → h'.get? ua1 = some (W.listOf vs1.toArray n') → Q (.str (Txt.join (Str.ofString "\n") (linesOf (ss1 ++ [seen]) dl1 ql1 rr1)) t) { s with heap := h', toks := tk }) : wpAny (model prog w) A (call (.ref 77) [.ref a1]) Q E s := by
  refine fillK ?_
  k_fill
  intro _ _
  refine fn_call (C.keep hk0) (by k_is) (by k_is) rfl (locs rfl) ?_
  intro L h₁ tk hF0 hN0
  have X := C.K
  have T := C.T
  obtain ⟨rest, hr1', hr2'⟩ := heap_rest h₀ s.heap ua1
  have hL0 : @LE.le Nat _ s.heap.objs.size L := hF0.above
  have hLn : s.heap.get? L = none := by
    cases q : s.heap.get? L with
    | none => rfl
    | some o => exact absurd (Heap.lt_size q) (Nat.not_lt.mpr hL0)
  have hF : Fr h₀ L h₁ _ := ⟨hF0.ns, fun b o e => hF0.keep b o (hk0 b o e), Nat.le_trans hz0 hL0⟩
  have put : ∀ {b : Addr} {o : Obj}, s.heap.get? b = some o → h₀.get? b = none → h₁.get? b = some o ∧ b ≠ L ∧ h₀.get? b = none := fun {b o} e f => ⟨hF0.keep _ _ e, ne_base e hLn, f⟩
  have hN : News h₀ L h₁ ((ua1, W.listOf vs1.toArray n1) :: (rl1, W.listOf rs1.toArray m1) :: (a1, instObj 59 dx1) :: (dx1, entD w.params t1 t2 t3 t4 ua1 rl1 de1 ra1) :: rest) :=
    news_push (put E1.uas hu0) (news_push (put E1.rls f3) (news_push (put E1.at_ f1) (news_push (put E1.dict f2) fun p hp => put (hr2' p hp).1 (hr2' p hp).2.1)))
  have hrest : ∀ p ∈ (rl1, W.listOf rs1.toArray m1) :: (a1, instObj 59 dx1) :: (dx1, entD w.params t1 t2 t3 t4 ua1 rl1 de1 ra1) :: rest, p.1 ≠ ua1 := by
    intro p hp
    rcases List.mem_cons.mp hp with rfl | hp
    · exact n3'
    · rcases List.mem_cons.mp hp with rfl | hp
      · exact n1'
      · rcases List.mem_cons.mp hp with rfl | hp
        · exact n2'
        · exact (hr2' p hp).2.2
  clear hF0 hN0
  dsimp only [entD] at hN
  walk_at "my steps"
  refine app_at hF hN (.head _) (by omega) fun h2 n2 hF2 hN2 => ?_
  have hN3 : News h₀ L h2 ((ua1, W.listOf (List.toArray (vs1 ++ [Value.str (Str.ofString "seen") (tk + 1)])) n2) :: (rl1, W.listOf rs1.toArray m1) :: (a1, instObj 59 dx1) :: (dx1, entD w.params t1 t2 t3 t4 ua1 rl1 de1 ra1) :: rest) := hN2 _ fun p hp => by
    rcases List.mem_cons.mp hp with rfl | hp
    · exact .inl rfl
    · exact .inr ⟨.tail _ hp, hrest p hp⟩
  have keep2 : ∀ b o, b ≠ ua1 → s.heap.get? b = some o → h2.get? b = some o := fun b o hb e => by
    cases q : h₀.get? b with
    | none => exact (hN3 _ (.tail _ (.tail _ (.tail _ (.tail _ (hr1' b o e q hb)))))).1
    | some o' =>
      have := hk0 b o' q
      rw [e] at this
      rw [Option.some.inj this]; exact hF2.keep _ _ q
  clear hF hN hN2
  dsimp only [entD] at hN3
  try dsimp only
  walk_at "my steps"
  refine str_spec (((C.deeper _).keep (Fr.keep hF2)).le (by decide)) ⟨(hN3 _ (.tail _ (.tail _ (.head _)))).1, (hN3 _ (.tail _ (.tail _ (.tail _ (.head _))))).1, (hN3 _ (.head _)).1, (hN3 _ (.tail _ (.head _))).1⟩ (strs_append hs1 (.cons _ _ .nil)) hr1 hd1 hd3 hdl (hql.keep E1.uas keep2) (by simp; omega) hr3 ?_ hrb fun h4 tk4 t4' st4 => ?_
  · intro x hx
    rcases List.mem_append.mp hx with hx | hx
    · exact hvb x hx
    · rw [List.mem_singleton.mp hx]; decide
  have hF4 := kept_fr hF2 st4
  have hN4 := kept_news hN3 st4
  clear hF2 hN3
  try dsimp only
  rw [show textOf (ss1 ++ [Str.ofString "seen"]) dl1 ql1 rr1 = Txt.join (Str.ofString "\n") (linesOf (ss1 ++ [seen]) dl1 ql1 rr1) from if_neg (by simp)]
  walk_at "my steps"
  rename Fr _ _ _ _ => hF5
  rename News _ _ _ _ => hN5
  refine kl_pop hF5 hN5 (kl_last_app _ _) (.head hrest) (by rw [sizeLine_eq]; simp; omega) fun h6 hF6 hN6 => ?_
  try dsimp only
  walk_at "my steps"
  refine hQ _ _ _ _ (fun b o hb e => ?_) (hN6 _ (.head _)).1
  cases q : h₀.get? b with
  | none => exact (hN6 _ (.tail _ (.tail _ (.tail _ (.tail _ (hr1' b o e q hb)))))).1
  | some o' =>
    have := hk0 b o' q
    rw [e] at this
    rw [Option.some.inj this]; exact hF6.keep _ _ q
end Mine
namespace Mine
open PySem.Builtin
theorem strs_mem {l : List (Str × Tok)} {v : Value} (h : v ∈ strValues l) : ∃ y t, v = Value.str y t ∧ y ∈ l.map (·.1) := by
  obtain ⟨p, hp, rfl⟩ := List.mem_map.mp h
  exact ⟨p.1, p.2, rfl, List.mem_map.mpr ⟨p, hp, rfl⟩⟩
theorem slice_keep {prog : Program} {w : World} {A : Around} {E : Value → Shared → Prop} {hp : Heap} {ge dr tk os} {value slice : PySem.Expr} {x : Str} {t : Tok} {Q : Value → Shared → Prop} {j : Int} {uj : Tok} (hx : x.length ≤ 100000)
    (h : ∀ h' t' k, hp.StaysIn h' → Q (.str (Txt.slice x none (some j)) t') (Shared.mk h' ge dr k os))
    (hs : subscripted slice false (.str x t) (.ref hp.objs.size) = operate [.ref hp.objs.size, .str x t] (getItem (.str x t) (.ref hp.objs.size)))
    (ht : ∀ r, letTemporaryGo value (.str x t) r = pure ()) :
    wpAny (model prog w) A (subscriptTail value slice (.str x t) (.ref hp.objs.size)) Q E (Shared.mk (hp.push { cls := .type "slice", data := .fields #[.none, .int j uj, .none] }) ge dr tk os) :=
  tail_of_ItemOn (SBH.sliceItem_ns (s := Shared.mk hp ge dr tk os) (P := fun h => hp.StaysIn h) (fun h ob hh b o e => Heap.get?_push_of_some _ (hh b o e)) (fun _ _ e => e) h (by rw [sizeLine_eq]; omega)) hs ht
theorem in_strs {prog : Program} {w : World} {A : Around} {E : Value → Shared → Prop} {s : Shared} {l : Addr} {vs : List Value} {ss : List Str} {y : Str} {ty : Tok} {Q : Value → Shared → Prop} (hl : s.heap.IsList l vs.toArray) (hv : StrsAre vs ss)
    (h : Q (.bool (ss.any fun a => decide (a = y))) s) : wpAny (model prog w) A (compareOp .In (.str y ty) (.ref l)) Q E s := by
  refine SeqAt.in_listAt (fun v => match v with | .str a _ => decide (a = y) | _ => false) hl (fun v hm => ?_) ?_
  · have hm : v ∈ vs := by simpa using hm
    obtain ⟨j, hj⟩ := List.mem_iff_getElem?.mp hm
    have hlt : j < ss.length := by rw [← hv.length]; exact (List.getElem?_eq_some_iff.mp hj).1
    obtain ⟨t, e⟩ := hv.get j _ (List.getElem?_eq_getElem hlt)
    rw [hj] at e
    rw [Option.some.inj e]
    have := SeqAt.EqAt.str_str (A := A.in1) (s := s) ss[j] t y ty
    have e2 : (ss[j] == y) = decide (ss[j] = y) := rfl
    rw [e2] at this
    exact this
  · have e : (vs.toArray.any fun v => match v with | .str a _ => decide (a = y) | _ => false) = ss.any fun a => decide (a = y) := by
      rw [List.any_toArray]
      clear h hl
      induction hv with
      | nil => rfl
      | cons x t _ ih => rw [List.any_cons, List.any_cons, ih]
    rw [e]; exact h
theorem slice_last (vs : List Value) : slicePick vs.toArray (some (-1)) none none = List.toArray (vs.drop (vs.length - 1)) := by
  have e : sliceBounds (some (-1)) none none vs.toArray.size = (((vs.toArray.size - 1 : Nat) : Int), ((vs.toArray.size : Nat) : Int), 1) := by
    simp only [sliceBounds, Option.getD_none, show (1 : Int) > 0 by decide, if_true, if_pos (show (-1 : Int) < 0 by decide)]
    congr 1
    omega
  rw [kmk_pick_nat _ e]
  congr 1
  show (vs.drop (vs.toArray.size - 1)).take (vs.toArray.size - (vs.toArray.size - 1)) = _
  rw [List.size_toArray, List.take_of_length_le (by rw [List.length_drop]; omega)]
theorem strs_drop {vs : List Value} {ss : List Str} (h : StrsAre vs ss) : ∀ k, StrsAre (vs.drop k) (ss.drop k) := by
  induction h with
  | nil => intro k; rw [List.drop_nil, List.drop_nil]; exact .nil
  | cons x t h ih =>
    intro k
    cases k with
    | zero => exact .cons x t h
    | succ k => exact ih k
section
variable {prog : Program} {w : World} {A : Around} {E : Value → Shared → Prop} {s : Shared} {h₀ : Heap} {L D : Addr} {m : Str → Option Value} {vs : List Value} {n : Nat} {news : List (Addr × Obj)} {Q : Value → Shared → Prop}
/-- a list of the ledger's is lengthened by another one -/
theorem ext_at {B : Addr} {ws : List Value} {c : Nat} (F : Fr h₀ L s.heap m) (N : News h₀ L s.heap news) (hm : (D, W.listOf vs.toArray n) ∈ news) (hB : s.heap.get? B = some (W.listOf ws.toArray c)) (hne : D ≠ B) (hsz : vs.length + ws.length ≤ 100000)
    (h : ∀ h' n', Fr h₀ L h' m → (∀ news', (∀ p ∈ news', p = (D, W.listOf (vs ++ ws).toArray n') ∨ (p ∈ news ∧ p.1 ≠ D)) → News h₀ L h' news') → Q .none { s with heap := h' }) :
    wpAny (model prog w) A (call (.builtin "list.extend") [.ref D, .ref B]) Q E s := by
  have z := N _ hm
  have hT : s.TypeIs (.ref D) "list" := ⟨_, z.1, rfl⟩
  have hs1 : vs.toArray.size ≤ sizeLine := by rw [sizeLine_eq, List.size_toArray]; omega
  have hs2 : vs.toArray.size + ws.toArray.size ≤ sizeLine + 1 := by rw [sizeLine_eq, List.size_toArray, List.size_toArray]; omega
  refine call_meets PySem.F.slot_list_extend hT PySem.F.entry_list_extend (PySem.F.args_list_extend_2 _ _) (PySem.AutoSeq1.list_extend_list_list_0 D vs.toArray n B ws.toArray c ?_ hs1 hs2) ⟨z.1, hB, ?_⟩
  · rw [Bool.and_eq_true, not_and]
    intro _
    simp only [Builtin.List.listTooLong, List.size_toArray, sizeLine_eq]
    simp only [decide_eq_true_eq]
    omega
  · have hs : Heap.SameBut D s.heap (s.heap.update D (Obj.mapSeq fun x => x ++ ws.toArray)) := Heap.SameBut.update ..
    have hl := Heap.get?_update_self (Obj.mapSeq fun x => x ++ ws.toArray) z.1 rfl
    refine h _ (if (vs.toArray ++ ws.toArray).size == vs.toArray.size then n else n + 1) ⟨F.ns.sameBut hs (Ne.symm z.2.1), fun b ob e => (hs.2 b (fun q => ?_)).trans (F.keep b ob e), F.above⟩ fun news' hn p hp => ?_
    · rw [q, z.2.2] at e; cases e
    · rcases hn p hp with rfl | ⟨h1, h2⟩
      · refine ⟨?_, z.2⟩
        rw [hl]
        simp [Obj.mapSeq, W.listOf]
      · exact ⟨(hs.2 p.1 h2).trans (N p h1).1, (N p h1).2⟩
end
theorem ne_nil {prog : Program} {w : World} {A : Around} {E : Value → Shared → Prop} {s : Shared} {D l : Addr} {vs : List Value} {Q : Value → Shared → Prop} (hu : A.units < cLine) (hl : s.heap.IsList D vs.toArray) (hb : s.heap.IsList l #[])
    (h : Q (.bool (!vs.isEmpty)) s) : wpAny (model prog w) A (compareOp .NotEq (.ref D) (.ref l)) Q E s := by
  cases vs with
  | nil => exact (SeqAt.RcNeAt.lists (e := fun _ => true) hl hb rfl hu (fun j h1 _ => absurd h1 (Nat.not_lt_zero _))) prog w E Q h
  | cons v r => exact (SeqAt.RcNeAt.lists_lengths hl hb (by simp) hu) prog w E Q h
def lastOne (l : List Str) : List Str := l.drop (l.length - 1)
def toldOf (all : List Str) (k : Str) : List Str := lastOne (all.filter fun x => Txt.slice x none (some (k.length : Int)) == k)
def keysL : List Str := [Str.ofString "Crawl-delay: ", Str.ofString "Request-rate: "]
def isUA (x : Str) : Bool := Txt.slice x none (some 12) == Str.ofString "User-agent: "
def isRule (x : Str) : Bool := Txt.slice x none (some 7) == Str.ofString "Allow: " || Txt.slice x none (some 10) == Str.ofString "Disallow: "
def pUA (b : List Str) (v : Value) : Bool := match v with | .str y _ => isUA y && b.any (fun z => decide (z = y)) | _ => false
def agentsL (a b : List Str) : List Str := a.filter fun y => isUA y && b.any fun z => decide (z = y)
def mergedL (a b : List Str) : List Str := agentsL a b ++ keysL.flatMap (toldOf (a ++ b)) ++ (if (a ++ b).filter isRule = [] then [Str.ofString "Allow:"] else (a ++ b).filter isRule)
theorem strs_filter {l : List (Str × Tok)} (p : Value → Bool) (q : Str → Bool) (h : ∀ y t, p (.str y t) = q y) : StrsAre ((strValues l).filter p) ((l.map (·.1)).filter q) := by
  induction l with
  | nil => exact .nil
  | cons a l ih =>
    show StrsAre ((Value.str a.1 a.2 :: strValues l).filter p) ((a.1 :: l.map (·.1)).filter q)
    rw [List.filter_cons, List.filter_cons, h]
    cases q a.1 with
    | true => exact .cons _ _ ih
    | false => exact ih
def nl : Str := Str.ofString "\n"
end Mine
namespace Mine
open PySem.Builtin
local macro_rules | `(tactic| walk_at "my steps") => `(tactic| repeat' (first | (k_unfold; (try dsimp only)) | ((fail_if_success (with_reducible show wpAny _ _ (pyIter _) _ _ _)); (fail_if_success (with_reducible show Exists _)); (fail_if_success (with_reducible show wpAny _ _ (exec (Stmt.For _ _ _ _ _) _) _ _ _)); (fail_if_success (with_reducible show wpAny _ _ (exec (Stmt.Assign _ (PySem.Expr.ListComp _ _ _ _) _) _) _ _ _)); (fail_if_success (with_reducible show wpAny _ _ (execs (Stmt.Assign _ (PySem.Expr.List _ _) _ :: Stmt.For _ _ _ _ _ :: _) _) _ _ _)); (fail_if_success (with_reducible show wpAny _ _ (subscriptTail _ (PySem.Expr.Slice _ _ _ _) (Value.str _ _) _) _ _ _)); (fail_if_success (with_reducible show wpAny _ _ (compareOp CmpOp.In _ _) _ _ _)); (fail_if_success (with_reducible show wpAny _ _ (compareOp CmpOp.NotEq _ _) _ _ _)); (first | walk1 | (dsimp only; walk1)); (try dsimp only))))
local macro_rules | `(tactic| walk_at "my all") => `(tactic| repeat' (first | (k_unfold; (try dsimp only)) | ((fail_if_success (with_reducible show wpAny _ _ (pyIter _) _ _ _)); (fail_if_success (with_reducible show Exists _)); (fail_if_success (with_reducible show wpAny _ _ (exec (Stmt.For _ _ _ _ _) _) _ _ _)); (fail_if_success (with_reducible show wpAny _ _ (exec (Stmt.Assign _ (PySem.Expr.ListComp _ _ _ _) _) _) _ _ _)); (fail_if_success (with_reducible show wpAny _ _ (execs (Stmt.Assign _ (PySem.Expr.List _ _) _ :: Stmt.For _ _ _ _ _ :: _) _) _ _ _)); (first | walk1 | (dsimp only; walk1)); (try dsimp only))))

set_option maxHeartbeats 8000000 in
theorem merged_spec {prog : Program} {w : World} {mean : ExcName → Option Value} {mg mb : Str → Option Value} {A : Around} {s : Shared} {f g : Str} {tf tg : Tok} {Q E : Value → Shared → Prop}
    (C : Cx (hd6.heap_39 w.params) hd6.view_39 (looseW hd6.view_39 []) mean mg mb A s.heap 10) (hf : f.length ≤ 200000) (hg : g.length ≤ 200000) (hfl : (Txt.split f nl).length ≤ 1000) (hgl : (Txt.split g nl).length ≤ 1000)
    (hfb : ∀ y ∈ Txt.split f nl, y.length ≤ 120) (hgb : ∀ y ∈ Txt.split g nl, y.length ≤ 120)
    (hQ : ∀ h' tk D vs c, s.heap.StaysIn h' → s.heap.get? D = none → h'.get? D = some (W.listOf (List.toArray vs) c) → StrsAre vs (mergedL (Txt.split f nl) (Txt.split g nl)) → Q (.ref D) { s with heap := h', toks := tk }) : wpAny (model prog w) A (call (.ref 82) [.str f tf, .str g tg]) Q E s := by
  refine fillK ?_
  k_fill
  intro _ _
  refine' fn_callC C ?k1 ?k2 ?k3 ?k4 ?k5 ?_ ?k6 ?k7 ?k8
  case k1 => k_is
  case k2 => k_is
  case k3 => exact rfl
  case k4 => exact rfl
  case k5 => decide +kernel
  case k6 => exact rfl
  case k7 => exact rfl
  case k8 => exact rfl
  intro L h₁ tk cells hLs hF hN hY
  have X := C.K
  have T := C.T
  k_cells hY
  rename_i oK0 oT0 dK0 dT0
  have zc : @LT.lt Nat _ (L + 1 + 1) h₁.objs.size := Heap.lt_size (hN _ (.head _)).1
  replace hF := fr_as (m' := fun y => if y = Str.ofString "second" then some (.str g tg) else if y = Str.ofString "first" then some (.str f tf) else none) hF (by kernel_rfl)
  walk_at "my steps"
  rename_i lO hO kO eO sO bO iO hO2 FO NO lT hT kT eT sT bT iT FT NT h4 oT hF4 hN4 hcT
  clear FT NT iO iT
  rw [show Str.ofString "\n" = nl from rfl] at eO eT
  try dsimp only at hN4 hF4 hcT ⊢
  have zO : @LT.lt Nat _ h₁.objs.size hO2.objs.size := Heap.lt_size (NO _ (.head _)).1
  generalize h₁.objs.size = aO at hN4 hF4 zO zc ⊢
  generalize hO2.objs.size = aT at hN4 hF4 hcT zO ⊢
  refine' asg_filter (h₀ := s.heap) (pUA (lT.map (·.1))) C.hh ?r0 ?r1 ?r2 ?r3 ?r4 ?r5 ?r6 ?r8 ?r9 ?_ ?r7
  case r0 => exact rfl
  case r1 => exact rfl
  case r2 => decide
  case r3 => exact rfl
  case r4 => decide +kernel
  case r5 => exact rfl
  case r6 => exact rfl
  case r8 => exact rfl
  case r9 => decide
  case r7 => intro _; rfl
  walk_at "my steps"
  refine ⟨aO, strValues lO, _, _, rfl, News.isList hN4 (.tail _ (.head _)), by rw [strValues, List.length_map, ← List.length_map (f := (·.1)), eO]; omega, hF4, hN4, ?_, ?_⟩
  · intro C5 s5 m5 E5 v5 hv5 hn5 hx5 hk5
    obtain ⟨y, ty, rfl, hyO⟩ := strs_mem hv5
    have hyl : y.length ≤ 120 := hfb y (by rw [← eO]; exact hyO)
    have hF5 := kept_fr hF4 fun b o e => hk5 b o e
    have hN5 := kept_news hN4 fun b o e => hk5 b o e
    walk_at "my steps"
    refine' slice_keep ?w1 ?_ ?w3 ?w4
    case w1 => omega
    case w3 => with_unfolding_all rfl
    case w4 => intro _; with_unfolding_all rfl
    intro h6 t6 k6 st6
    try dsimp only at st6
    have hF6 := kept_fr hF5 st6
    have hN6 := kept_news hN5 st6
    have hn6 := hn5.keeps st6
    clear hF5 hN5
    try dsimp only
    walk_at "my steps"
    · rename (Txt.slice y none (some 12) == Str.ofString "User-agent: ") = true => hc1
      refine in_strs ⟨_, (hN6 _ (.head _)).1, rfl, _, rfl⟩ sT ?_
      try dsimp only
      walk_at "my steps"
      all_goals (first | (rename (List.any (List.map (fun x : Str × Tok => x.1) lT) _) = _ => hc2; simp only [pUA, isUA]; rw [hc1, hc2]; rfl) | exact ⟨h6, _, rfl, st6⟩)
    · rename (Txt.slice y none (some 12) == Str.ofString "User-agent: ") = false => hc1
      simp only [pUA, isUA]; rw [hc1]; rfl
    · exact ⟨h6, _, rfl, st6⟩
  · intro D5 h5 tk5 c5 hF5 hN5 hne5 hD5 hk5
    try dsimp only
    walk_at "my steps"
    refine' For_tuple_cell s.heap ?q1 ?q2 ?q3 C.hh ?_ ?q4 ?q5
    case q1 => exact rfl
    case q2 => exact rfl
    case q3 => exact rfl
    case q4 => intro _; rfl
    case q5 => passes_own
    walk_at "my steps"
    rename Fr _ _ _ _ => hF6
    rename News _ _ _ _ => hN6
    rename_i D6 h6 l6
    have hA0 : StrsAre ((strValues lO).filter (pUA (lT.map (·.1)))) (agentsL (Txt.split f nl) (Txt.split g nl)) := by
      rw [← eO, ← eT]
      exact strs_filter _ _ fun y t => rfl
    have hA0l : ((strValues lO).filter (pUA (lT.map (·.1)))).length ≤ 1000 := by
      refine Nat.le_trans (List.length_filter_le _ _) ?_
      rw [strValues, List.length_map, ← List.length_map (f := (·.1)), eO]; exact hfl
    generalize (strValues lO).filter (pUA (lT.map (·.1))) = vsA at hN6 hA0 hA0l
    obtain ⟨k1, k2, k3, k4, k5, _⟩ := l6
    have nd : @List.Nodup Nat [L + 1 + 1, L + 1, aO, aT, D5, D6] := by
      have h1 : @Ne Nat aT D5 := hne5 _ (.head _)
      have h2 : @Ne Nat aO D5 := hne5 _ (.tail _ (.head _))
      have h3 : @Ne Nat (L + 1 + 1) D5 := hne5 _ (.tail _ (.tail _ (.head _)))
      have h4 : @Ne Nat (L + 1) D5 := hne5 _ (.tail _ (.tail _ (.tail _ (.head _))))
      have k1' : @LT.lt Nat _ D5 D6 := k1
      simp only [List.nodup_cons, List.mem_cons, List.not_mem_nil, or_false, not_or, not_false_eq_true, List.nodup_nil, and_true]
      omega
    obtain ⟨vK, hvK, hTup⟩ : ∃ vK : List Value, StrsAre vK keysL ∧ h6.IsTuple D6 vK.toArray := ⟨_, .cons _ _ (.cons _ _ .nil), ⟨_, (hN6 _ (.head _)).1, rfl, _, rfl⟩⟩
    obtain ⟨oT6, hoT6⟩ : ∃ o, h6.get? D6 = some o := ⟨_, (hN6 _ (.head _)).1⟩
    have hD6L := (hN6 _ (.head _)).2
    have hlO : (strValues lO).length ≤ 1000 := by rw [strValues, List.length_map, ← List.length_map (f := (·.1)), eO]; exact hfl
    have hlT : (strValues lT).length ≤ 1000 := by rw [strValues, List.length_map, ← List.length_map (f := (·.1)), eT]; exact hgl
    have nd0 := nd
    simp only [List.nodup_cons, List.mem_cons, List.not_mem_nil, or_false, not_or, not_false_eq_true, List.nodup_nil, and_true] at nd0
    have hNk : News s.heap L h6 ((L + 1 + 1, oK0) :: (D5, W.listOf vsA.toArray c5) :: [(aT, W.listOf (strValues lT).toArray 0), (aO, W.listOf (strValues lO).toArray 0), (L + 1, oT)]) :=
      news_push (hN6 _ (.tail _ (.tail _ (.tail _ (.tail _ (.head _)))))) (news_push (hN6 _ (.tail _ (.head _))) (news_push (hN6 _ (.tail _ (.tail _ (.head _)))) (news_push (hN6 _ (.tail _ (.tail _ (.tail _ (.head _))))) (news_push (hN6 _ (.tail _ (.tail _ (.tail _ (.tail _ (.tail _ (.head _))))))) News.nil))))
    (try clear hN6); (try clear hF5); (try clear hN5); (try clear hN4); (try clear hF4)
    refine ⟨D6, oT6, vK, _, oK0, _, fun i m news => ∃ r vs c, m = (fun y => if y = Str.ofString "told" then r else if y = Str.ofString "lines" then some (Value.ref D5) else if y = Str.ofString "ours" then some (Value.ref aO) else if y = Str.ofString "second" then some (Value.str g tg) else if y = Str.ofString "first" then some (Value.str f tf) else none) ∧
        news = (D5, W.listOf (List.toArray vs) c) :: [(aT, W.listOf (strValues lT).toArray 0), (aO, W.listOf (strValues lO).toArray 0), (L + 1, oT)] ∧ StrsAre vs (agentsL (Txt.split f nl) (Txt.split g nl) ++ (keysL.take i).flatMap (toldOf (Txt.split f nl ++ Txt.split g nl))) ∧ vs.length ≤ 1000 + i,
      rfl, hTup, hoT6, hD6L.1, by show @Ne Nat D6 (L + 1 + 1); omega, hD6L.2, hF6, hNk, ?_, ⟨_, dK0⟩, ⟨none, vsA, c5, upd_new _ _ rfl, rfl, by rw [List.take_zero, List.flatMap_nil, List.append_nil]; exact hA0, hA0l⟩, ?_, ?_⟩
    · intro p hp
      simp only [List.mem_cons, List.not_mem_nil, or_false] at hp
      rcases hp with rfl | rfl | rfl | rfl
      · show @Ne Nat D5 (L + 1 + 1); omega
      · show @Ne Nat aT (L + 1 + 1); omega
      · show @Ne Nat aO (L + 1 + 1); omega
      · show @Ne Nat (L + 1) (L + 1 + 1); omega
    · rintro i v m₁ o₁ I oI news₁ h7 tk7 hv ⟨r, vs, c, rfl, rfl, hvs, hvl⟩ hoff hIc haxc hd₁ hF7 hN7
      have hi : i < keysL.length := by rw [← hvK.length]; exact (List.getElem?_eq_some_iff.mp hv).1
      have hKx := List.getElem?_eq_getElem hi
      have hi2 : i < 2 := hi
      obtain ⟨tK, hvx⟩ := hvK.get i _ hKx
      obtain rfl : v = .str keysL[i] tK := by rw [hv] at hvx; exact Option.some.inj hvx
      have hKl : keysL[i].length ≤ 20 := (by decide : ∀ K ∈ keysL, K.length ≤ 20) _ (List.getElem_mem hi)
      generalize keysL[i] = K at hKx hKl hd₁ hv hvx
      clear hv hvx
      have hvsK := Hid.mk hvs
      clear hvs; (try clear hNk); (try clear hF6)
      try dsimp only
      walk_at "my steps"
      refine' asg_filter (h₀ := s.heap) (fun v => match v with | .str y _ => Txt.slice y none (some (K.length : Int)) == K | _ => false) C.hh ?r0 ?r1 ?r2 ?r3 ?r4 ?r5 ?r6 ?r8 ?r9 ?_ ?r7
      case r0 => exact rfl
      case r1 => exact rfl
      case r2 => decide
      case r3 => exact rfl
      case r4 => decide +kernel
      case r5 => exact rfl
      case r6 => exact rfl
      case r8 => exact rfl
      case r9 => decide
      case r7 => intro _; rfl
      walk_at "my steps"
      rename Fr _ _ _ _ => hF8
      rename News _ _ _ _ => hN8
      refine ⟨_, strValues lO ++ strValues lT, _, _, rfl, ⟨_, (hN8 _ (.head _)).1, rfl, _, rfl⟩, by rw [List.length_append]; omega, hF8, hN8, ?_, ?_⟩
      · intro C9 s9 m9 E9 v9 hv9 hn9 hx9 hk9
        obtain ⟨y, ty, rfl, hyl⟩ : ∃ y t, v9 = Value.str y t ∧ y.length ≤ 120 := by
          rcases List.mem_append.mp hv9 with hv9 | hv9
          · obtain ⟨y, t, e, hy⟩ := strs_mem hv9
            exact ⟨y, t, e, hfb y (by rw [← eO]; exact hy)⟩
          · obtain ⟨y, t, e, hy⟩ := strs_mem hv9
            exact ⟨y, t, e, hgb y (by rw [← eT]; exact hy)⟩
        have hF9 := kept_fr hF8 fun b o e => hk9 b o e
        have hN9 := kept_news hN8 fun b o e => hk9 b o e
        clear hv9
        (try clear hF8); (try clear hN8); (try clear hF7); (try clear hN7)
        walk_at "my steps"
        refine' slice_keep ?w1 ?_ ?w3 ?w4
        case w1 => omega
        case w3 => with_unfolding_all rfl
        case w4 => intro _; with_unfolding_all rfl
        intro h10 t10 k10 st10
        try dsimp only at st10
        have hF10 := kept_fr hF9 st10
        have hN10 := kept_news hN9 st10
        have hn10 := hn9.keeps st10
        (try clear hF9); (try clear hN9)
        try dsimp only
        walk_at "my steps"
        exact ⟨h10, _, rfl, st10⟩
      · intro D11 h11 tk11 c11 hF11 hN11 hne11 hD11 hk11
        try dsimp only
        walk_at "my steps"
        have hT0 : StrsAre ((strValues lO ++ strValues lT).filter fun v => match v with | .str y _ => Txt.slice y none (some (K.length : Int)) == K | _ => false) ((Txt.split f nl ++ Txt.split g nl).filter fun x => Txt.slice x none (some (K.length : Int)) == K) := by
          rw [← eO, ← eT, List.filter_append, List.filter_append]
          exact strs_append (strs_filter _ _ fun y t => rfl) (strs_filter _ _ fun y t => rfl)
        have hT0l : ((strValues lO ++ strValues lT).filter fun v => match v with | .str y _ => Txt.slice y none (some (K.length : Int)) == K | _ => false).length ≤ 2000 := by
          refine Nat.le_trans (List.length_filter_le _ _) ?_
          rw [List.length_append]; omega
        generalize ((strValues lO ++ strValues lT).filter fun v => match v with | .str y _ => Txt.slice y none (some (K.length : Int)) == K | _ => false) = vsT at hN11 hT0 hT0l
        have hTK := Hid.mk hT0
        clear hT0
        refine kmk_slice (s := ⟨_, _, _, _, _⟩) hF11 hN11 (l := D11) ⟨_, (hN11 _ (.head _)).1, rfl, _, rfl⟩ (.int _ _) .none (fun D12 h12 hF12 hN12 l12 => ?_) (by with_unfolding_all rfl) (by intro _; with_unfolding_all rfl) (by rw [sizeLine_eq, List.size_toArray]; omega)
        rw [slice_last] at hN12
        (try clear hF11); (try clear hN11)
        try dsimp only
        walk_at "my steps"
        have x5 := l12 (D5, W.listOf vs.toArray c) (.tail _ (.tail _ (.tail _ (.tail _ (.tail _ (.head _))))))
        refine ext_at hF12 hN12 (.tail _ (.tail _ (.tail _ (.tail _ (.tail _ (.tail _ (.head _))))))) (hN12 _ (.head _)).1 (Nat.ne_of_lt x5) (by rw [List.length_drop]; omega) fun h13 n13 hF13 hN13 => ?_
        try dsimp only
        walk_at "my steps"
        have offN := hoff (D5, W.listOf vs.toArray c) (.head _)
        refine ⟨rfl, h13, _, _, o₁, (D5, W.listOf (List.toArray (vs ++ vsT.drop (vsT.length - 1))) n13) :: [(aT, W.listOf (strValues lT).toArray 0), (aO, W.listOf (strValues lO).toArray 0), (L + 1, oT)], rfl, fr_as hF13 (upd_upd _ _ _ _), hN13 _ fun p hp => ?_, fun p hp => ?_, ⟨_, hd₁⟩, _, _, _, rfl, rfl, ?_, ?_⟩
        · simp only [List.cons_append, List.nil_append, List.mem_cons, List.not_mem_nil, or_false] at hp
          rcases hp with rfl | rfl | rfl | rfl | rfl | rfl | rfl
          · exact .inr ⟨.tail _ (.tail _ (.tail _ (.head _))), by show @Ne Nat (L + 1 + 1) D5; omega⟩
          · exact .inr ⟨.tail _ (.tail _ (.tail _ (.tail _ (.head _)))), Ne.symm offN.1⟩
          · exact .inr ⟨.tail _ (.tail _ (.tail _ (.tail _ (.tail _ (.head _))))), by show @Ne Nat D6 D5; omega⟩
          · exact .inl rfl
          · exact .inr ⟨.tail _ (.tail _ (.tail _ (.tail _ (.tail _ (.tail _ (.tail _ (.head _))))))), by show @Ne Nat aT D5; omega⟩
          · exact .inr ⟨.tail _ (.tail _ (.tail _ (.tail _ (.tail _ (.tail _ (.tail _ (.tail _ (.head _)))))))), by show @Ne Nat aO D5; omega⟩
          · exact .inr ⟨.tail _ (.tail _ (.tail _ (.tail _ (.tail _ (.tail _ (.tail _ (.tail _ (.tail _ (.head _))))))))), by show @Ne Nat (L + 1) D5; omega⟩
        · rcases List.mem_cons.mp hp with rfl | hp
          · exact offN
          · exact hoff p (.tail _ hp)
        · rw [List.take_add_one, hKx, List.flatMap_append, ← List.append_assoc]
          refine strs_append hvsK.out ?_
          rw [Option.toList_some, List.flatMap_cons, List.flatMap_nil, List.append_nil, toldOf, lastOne, ← hTK.out.length]
          exact strs_drop hTK.out _
        · rw [List.length_append, List.length_drop]; omega
    · rintro h7 tk7 m₁ o₁ news₁ hF7 hN7 hnc ⟨v₁, hd₁⟩ ⟨r, vs, c, rfl, rfl, hvs, hvl⟩
      rw [hvK.length, List.take_length] at hvs
      have hvl2 : vs.length ≤ 1002 := by
        have : vK.length = 2 := hvK.length
        omega
      have hvsK := Hid.mk hvs
      clear hvs hvl
      (try clear hNk); (try clear hF6)
      try dsimp only
      walk_at "my steps"
      refine wpAny_execs_cons ?_
      try dsimp only
      walk_at "my steps"
      rename Fr _ _ _ _ => hF8
      rename News _ _ _ _ => hN8
      rename_i lQ hq8 Fq8 Nq8 lQ1 h8
      have zQ : @LT.lt Nat _ lQ h8.objs.size := Heap.lt_size (hN8 _ (.head _)).1
      have zL8 : @LT.lt Nat _ L h8.objs.size := hF8.ns.lt
      refine' For_invV s.heap ?q1 ?q2 ?_ ?q3 ?q4
      case q1 => exact rfl
      case q2 => exact rfl
      case q3 => intro _; rfl
      case q4 => passes_own
      walk_at "my steps"
      rename Fr _ _ _ _ => hF9
      rename News _ _ _ _ => hN9
      rename_i h9
      try dsimp only at hN9
      generalize h8.objs.size = aL at hN9 zQ zL8 ⊢
      obtain ⟨vsL, hvsL⟩ : ∃ l, l = strValues lO ++ strValues lT := ⟨_, rfl⟩
      have hLs : StrsAre vsL (Txt.split f nl ++ Txt.split g nl) := by rw [hvsL, ← eO, ← eT]; exact strs_append sO sT
      have hLl : vsL.length ≤ 2000 := by rw [hvsL, List.length_append]; omega
      have hLb : ∀ y ∈ Txt.split f nl ++ Txt.split g nl, y.length ≤ 120 := fun y hy => by
        rcases List.mem_append.mp hy with hy | hy
        · exact hfb y hy
        · exact hgb y hy
      have hN10 : News s.heap L h9 ((lQ, W.listOf (List.toArray []) 0) :: [(aL, W.listOf vsL.toArray 0), (L + 1 + 1, o₁), (D5, W.listOf vs.toArray c), (aT, W.listOf (strValues lT).toArray 0), (aO, W.listOf (strValues lO).toArray 0), (L + 1, oT)]) := by
        rw [hvsL]
        exact news_push (hN9 _ (.tail _ (.head _))) (news_push (hN9 _ (.head _)) fun p hp => hN9 p (.tail _ (.tail _ hp)))
      have hRq : ∀ p ∈ [(aL, W.listOf vsL.toArray 0), (L + 1 + 1, o₁), (D5, W.listOf vs.toArray c), (aT, W.listOf (strValues lT).toArray 0), (aO, W.listOf (strValues lO).toArray 0), (L + 1, oT)], p.1 ≠ lQ := by
        obtain ⟨y1, y2, y3, y4, y5⟩ := lQ1
        intro p hp
        simp only [List.mem_cons, List.not_mem_nil, or_false] at hp
        rcases hp with rfl | rfl | rfl | rfl | rfl | rfl
        · exact Ne.symm (Nat.ne_of_lt zQ)
        · exact Nat.ne_of_lt y1
        · exact Nat.ne_of_lt y2
        · exact Nat.ne_of_lt y3
        · exact Nat.ne_of_lt y4
        · exact Nat.ne_of_lt y5
      have hLsK := Hid.mk hLs
      clear hLs hN9 Nq8 Fq8
      (try clear hN8); (try clear hF8); (try clear hN7); (try clear hF7)
      refine iter_listK [] (fun i news => ∃ vq cq, news = (lQ, W.listOf (List.toArray vq) cq) :: [(aL, W.listOf vsL.toArray 0), (L + 1 + 1, o₁), (D5, W.listOf vs.toArray c), (aT, W.listOf (strValues lT).toArray 0), (aO, W.listOf (strValues lO).toArray 0), (L + 1, oT)] ∧ StrsAre vq (((Txt.split f nl ++ Txt.split g nl).take i).filter isRule) ∧ vq.length ≤ i) C.hh ⟨_, (hN10 _ (.tail _ (.head _))).1, rfl, _, rfl⟩ (Nat.ne_of_lt zL8) hF9 hN10 ⟨[], 0, rfl, .nil, Nat.le_refl _⟩ ?_ ?_
      · rintro i v u news₁ h11 tk11 I own hi hv ⟨vq, cq, rfl, hvq, hvql⟩ hoff hown hlt hF11 hN11
        simp only [overs] at hF11
        have hi' : i < (Txt.split f nl ++ Txt.split g nl).length := by rw [← hLsK.out.length]; simpa using hi
        have hi2 : i < 2000 := by rw [← hLsK.out.length] at hi'; omega
        have hx := List.getElem?_eq_getElem hi'
        obtain ⟨tx, hvx⟩ := hLsK.out.get i _ hx
        obtain rfl : v = .str (Txt.split f nl ++ Txt.split g nl)[i] tx := by
          have hv' : vsL[i]? = some v := by simpa using hv
          rw [hv'] at hvx; exact Option.some.inj hvx
        have hxl := hLb _ (List.getElem_mem hi')
        generalize (Txt.split f nl ++ Txt.split g nl)[i] = x at hx hxl hF11 ⊢
        have hvqK := Hid.mk hvq
        clear hvq hF9 hN10 hv hvx
        have htake : ((Txt.split f nl ++ Txt.split g nl).take (i + 1)).filter isRule = ((Txt.split f nl ++ Txt.split g nl).take i).filter isRule ++ (if isRule x then [x] else []) := by
          rw [List.take_add_one, hx, List.filter_append]
          simp only [Option.toList_some, List.filter_cons, List.filter_nil]
        try dsimp only
        walk_at "my all"
        · rename (_ == Str.ofString "Allow: ") = true => hc1
          have hr : isRule x = true := by rw [isRule, hc1]; rfl
          rename Fr _ _ _ _ => hF12
          rename News _ _ _ _ => hN12
          refine app_strs hF12 hN12 (.head _) hvqK.out (by omega) fun h13 n13 vs13 hv13 hl13 hF13 hN13 => ?_
          try dsimp only
          walk_at "my all"
          refine LoopStepU.intro hF13 (news₂ := (lQ, W.listOf (List.toArray vs13) n13) :: [(aL, W.listOf vsL.toArray 0), (L + 1 + 1, o₁), (D5, W.listOf vs.toArray c), (aT, W.listOf (strValues lT).toArray 0), (aO, W.listOf (strValues lO).toArray 0), (L + 1, oT)]) (hN13 _ fun p hp => ?_) (fun p hp => ?_) ⟨?_, _, _, rfl, ?_, by omega⟩
          · rcases List.mem_append.mp hp with hp | hp
            · refine .inr ⟨List.mem_append_right _ hp, ?_⟩
              rcases hown p hp with e | e
              · rw [e]; exact (hoff _ (.head _)).symm
              · rw [e]; exact Ne.symm (Nat.ne_of_lt zQ)
            · rcases List.mem_cons.mp hp with rfl | hp
              · exact .inl rfl
              · exact .inr ⟨List.mem_append_left _ (.tail _ hp), hRq p hp⟩
          · rw [List.mem_singleton]
            rcases List.mem_cons.mp hp with rfl | hp
            · exact hoff (lQ, W.listOf vq.toArray cq) (.head _)
            · exact hoff p (.tail _ hp)
          · intro y hy
            simp only [List.mem_cons, List.not_mem_nil, or_false] at hy
            simp only [hy, if_false]
          · rw [htake, if_pos hr]; exact hv13
        · rename (_ == Str.ofString "Disallow: ") = true => hc1
          have hr : isRule x = true := by rw [isRule, hc1, Bool.or_true]
          rename Fr _ _ _ _ => hF12
          rename News _ _ _ _ => hN12
          refine app_strs hF12 hN12 (.head _) hvqK.out (by omega) fun h13 n13 vs13 hv13 hl13 hF13 hN13 => ?_
          try dsimp only
          walk_at "my all"
          refine LoopStepU.intro hF13 (news₂ := (lQ, W.listOf (List.toArray vs13) n13) :: [(aL, W.listOf vsL.toArray 0), (L + 1 + 1, o₁), (D5, W.listOf vs.toArray c), (aT, W.listOf (strValues lT).toArray 0), (aO, W.listOf (strValues lO).toArray 0), (L + 1, oT)]) (hN13 _ fun p hp => ?_) (fun p hp => ?_) ⟨?_, _, _, rfl, ?_, by omega⟩
          · rcases List.mem_append.mp hp with hp | hp
            · refine .inr ⟨List.mem_append_right _ hp, ?_⟩
              rcases hown p hp with e | e
              · rw [e]; exact (hoff _ (.head _)).symm
              · rw [e]; exact Ne.symm (Nat.ne_of_lt zQ)
            · rcases List.mem_cons.mp hp with rfl | hp
              · exact .inl rfl
              · exact .inr ⟨List.mem_append_left _ (.tail _ hp), hRq p hp⟩
          · rw [List.mem_singleton]
            rcases List.mem_cons.mp hp with rfl | hp
            · exact hoff (lQ, W.listOf vq.toArray cq) (.head _)
            · exact hoff p (.tail _ hp)
          · intro y hy
            simp only [List.mem_cons, List.not_mem_nil, or_false] at hy
            simp only [hy, if_false]
          · rw [htake, if_pos hr]; exact hv13
        · rename (_ == Str.ofString "Disallow: ") = false => hc2
          rename (_ == Str.ofString "Allow: ") = false => hc1
          have hr : isRule x = false := by rw [isRule, hc1, hc2]; rfl
          rename Fr _ _ _ _ => hF12
          rename News _ _ _ _ => hN12
          refine LoopStepU.intro hF12 (news₂ := (lQ, W.listOf (List.toArray vq) cq) :: [(aL, W.listOf vsL.toArray 0), (L + 1 + 1, o₁), (D5, W.listOf vs.toArray c), (aT, W.listOf (strValues lT).toArray 0), (aO, W.listOf (strValues lO).toArray 0), (L + 1, oT)]) (fun p hp => hN12 p (mem_swap hp)) (fun p hp => by rw [List.mem_singleton]; exact hoff p hp) ⟨?_, _, _, rfl, ?_, by omega⟩
          · intro y hy
            simp only [List.mem_cons, List.not_mem_nil, or_false] at hy
            simp only [hy, if_false]
          · rw [htake, if_neg (by rw [hr]; decide), List.append_nil]; exact hvqK.out
      · rintro u news₁ h11 tk11 ⟨vq, cq, rfl, hvq, hvql⟩ hF11 hN11
        simp only [overs] at hF11
        have e1 : vsL.toArray.size = (Txt.split f nl ++ Txt.split g nl).length := by rw [List.size_toArray, hLsK.out.length]
        rw [e1, List.take_length] at hvq
        rw [List.size_toArray] at hvql
        have hvqK := Hid.mk hvq
        clear hvq hF9 hN10
        try dsimp only
        walk_at "my steps"
        rename Fr _ _ _ _ => hF12
        rename News _ _ _ _ => hN12
        refine ne_nil (by have := C.un; show A.units + 3 < _; omega) ⟨_, (hN12 _ (.tail _ (.head _))).1, rfl, _, rfl⟩ ⟨_, (hN12 _ (.head _)).1, rfl, _, rfl⟩ ?_
        have hql : vq.length = ((Txt.split f nl ++ Txt.split g nl).filter isRule).length := hvqK.out.length
        cases hvqe : vq.isEmpty with
        | true =>
          rw [show (!true) = false from rfl]
          try dsimp only
          walk_at "my steps"
          rename Fr _ _ _ _ => hFz
          rename News _ _ _ _ => hNz
          have er : (Txt.split f nl ++ Txt.split g nl).filter isRule = [] := List.length_eq_zero_iff.mp (by rw [← hql, List.isEmpty_iff.mp hvqe]; rfl)
          exact hQ _ _ _ (vs ++ [Value.str _ _]) _ (fun b o e => hFz.keep b o e) (hNz _ (.head _)).2.2 (hNz _ (.head _)).1 (by rw [mergedL, if_pos er]; exact strs_append hvsK.out (.cons _ _ .nil))
        | false =>
          rw [show (!false) = true from rfl]
          try dsimp only
          walk_at "my steps"
          rename Fr _ _ _ _ => hFz
          rename News _ _ _ _ => hNz
          have er : (Txt.split f nl ++ Txt.split g nl).filter isRule ≠ [] := fun e => by
            rw [e] at hql
            rw [List.length_eq_zero_iff.mp hql] at hvqe; cases hvqe
          exact hQ _ _ _ (vs ++ vq) _ (fun b o e => hFz.keep b o e) (hNz _ (.head _)).2.2 (hNz _ (.head _)).1 (by rw [mergedL, if_neg er]; exact strs_append hvsK.out hvqK.out)
end Mine
namespace Mine
open PySem.Builtin

abbrev tl (x : Str) : List Nat := x.cps.toList
theorem str_ext {x y : Str} (h : tl x = tl y) : x = y := by
  cases x; cases y
  exact congrArg Str.mk (Array.toList_inj.mp h)
theorem tl_append (x y : Str) : tl (x ++ y) = tl x ++ tl y := Array.toList_append
theorem nl_eq : nl = ⟨#[10]⟩ := by decide
theorem cut_first {u u' v v' : List Nat} (h : u ++ 10 :: v = u' ++ 10 :: v') (h1 : 10 ∉ u) (h2 : 10 ∉ u') : u = u' ∧ v = v' := by
  induction u generalizing u' with
  | nil =>
    cases u' with
    | nil => exact ⟨rfl, (List.cons.inj h).2⟩
    | cons a r => exact absurd (.head _) ((List.cons.inj h).1 ▸ h2)
  | cons a r ih =>
    cases u' with
    | nil => exact absurd (.head _) ((List.cons.inj h).1 ▸ h1)
    | cons b r' =>
      obtain ⟨e1, e2⟩ := List.cons.inj h
      obtain ⟨e3, e4⟩ := ih e2 (fun hm => h1 (.tail _ hm)) (fun hm => h2 (.tail _ hm))
      exact ⟨by rw [e1, e3], e4⟩
theorem join_two (x y : Str) (r : List Str) : tl (Str.join nl (x :: y :: r)) = tl x ++ 10 :: tl (Str.join nl (y :: r)) := by
  show tl (x ++ nl ++ Str.join nl (y :: r)) = _
  rw [tl_append, tl_append, nl_eq]
  simp [tl]
theorem join_inj : ∀ {a b : List Str}, a ≠ [] → b ≠ [] → (∀ p ∈ a, 10 ∉ tl p) → (∀ p ∈ b, 10 ∉ tl p) → Str.join nl a = Str.join nl b → a = b
  | [], _, h, _, _, _, _ => absurd rfl h
  | _, [], _, h, _, _, _ => absurd rfl h
  | [x], [y], _, _, _, _, h => congrArg (· :: []) h
  | [x], y :: z :: r, _, _, h1, _, h => by
    have e := congrArg tl h
    rw [join_two] at e
    exact absurd (by rw [show tl x = _ from e]; simp) (h1 x (.head _))
  | x :: z :: r, [y], _, _, _, h2, h => by
    have e := congrArg tl h
    rw [join_two] at e
    exact absurd (by rw [show tl y = _ from e.symm]; simp) (h2 y (.head _))
  | x :: x' :: r, y :: y' :: r', _, _, h1, h2, h => by
    have e := congrArg tl h
    rw [join_two, join_two] at e
    obtain ⟨e1, e2⟩ := cut_first e (h1 x (.head _)) (h2 y (.head _))
    rw [str_ext e1, join_inj (a := x' :: r) (b := y' :: r') (by simp) (by simp) (fun p hp => h1 p (.tail _ hp)) (fun p hp => h2 p (.tail _ hp)) (str_ext e2)]
theorem split_join {l : List Str} (h : l ≠ []) (h1 : ∀ p ∈ l, 10 ∉ tl p) : Txt.split (Txt.join nl l) nl = l := by
  have e : Txt.join nl l = Str.join nl l := StrLaws.glued_eq_join nl l
  refine join_inj ?_ h (fun p hp => ?_) h1 ?_
  · intro e2
    have := split_pos (Txt.join nl l) nl
    rw [e2] at this; exact absurd this (by decide)
  · rw [nl_eq] at hp
    exact StrLaws.split_free _ 10 p hp
  · rw [StrLaws.join_split, e]

def AG : List Str := [Str.ofString "plum", Str.ofString "fig", Str.ofString "Fig", Str.ofString "*", Str.ofString "Allow: /"]
def RU : List Str := [Str.ofString "Allow: ", Str.ofString "Disallow: /", Str.ofString "Allow: /Allow:", Str.ofString "Disallow: ", Str.ofString "Allow: /*", Str.ofString "Disallow: /x$"]
def CD : List Str := [Str.ofString "Crawl-delay: 0", Str.ofString "Crawl-delay: 12"]
def RR : List Str := [Str.ofString "Request-rate: 0/1", Str.ofString "Request-rate: 30/7"]
structure RecOk (ss dl ql rr : List Str) : Prop where
  ag : ∀ x ∈ ss, x ∈ AG
  de : ∀ y ∈ dl, y ∈ CD
  d1 : dl.length ≤ 1
  ra : ∀ y ∈ ql, y ∈ RR
  q1 : ql.length ≤ 1
  ru : ∀ y ∈ rr, y ∈ RU
def allowS : Str := Str.ofString "Allow:"
def isK (k : Str) (x : Str) : Bool := Txt.slice x none (some (k.length : Int)) == k
def kD : Str := Str.ofString "Crawl-delay: "
def kR : Str := Str.ofString "Request-rate: "
theorem tab_ua : ∀ x ∈ seen :: AG, isUA (uaLine x) = true ∧ isK kD (uaLine x) = false ∧ isK kR (uaLine x) = false ∧ isRule (uaLine x) = false ∧ 10 ∉ tl (uaLine x) := by decide +kernel
theorem tab_cd : ∀ y ∈ CD, isUA y = false ∧ isK kD y = true ∧ isK kR y = false ∧ isRule y = false ∧ 10 ∉ tl y := by decide +kernel
theorem tab_rr : ∀ y ∈ RR, isUA y = false ∧ isK kD y = false ∧ isK kR y = true ∧ isRule y = false ∧ 10 ∉ tl y := by decide +kernel
theorem tab_ru : ∀ y ∈ RU, isUA y = false ∧ isK kD y = false ∧ isK kR y = false ∧ isRule y = true ∧ 10 ∉ tl y := by decide +kernel
theorem tab_al : isUA allowS = false ∧ isK kD allowS = false ∧ isK kR allowS = false ∧ isRule allowS = false ∧ 10 ∉ tl allowS := by decide +kernel
theorem seen_no : seen ∉ AG := by decide +kernel
end Mine
namespace Mine
open PySem.Builtin

theorem uaLine_inj {x y : Str} (h : uaLine x = uaLine y) : x = y := by
  have e := congrArg tl h
  rw [uaLine, uaLine, tl_append, tl_append] at e
  exact str_ext (List.append_cancel_left e)
theorem filt_none {l : List Str} {p : Str → Bool} (h : ∀ y ∈ l, p y = false) : l.filter p = [] := List.filter_eq_nil_iff.mpr fun y hy => by rw [h y hy]; decide
theorem filt_all {l : List Str} {p : Str → Bool} (h : ∀ y ∈ l, p y = true) : l.filter p = l := List.filter_eq_self.mpr h
/-- the last part of an entry's lines -/
def rulesL (rr : List Str) : List Str := if rr = [] then [Str.ofString "Allow:"] else rr
theorem linesOf_eq (ss dl ql rr : List Str) : linesOf ss dl ql rr = ss.map uaLine ++ dl ++ ql ++ rulesL rr := rfl
theorem rulesL_mem {rr : List Str} {y : Str} (h : y ∈ rulesL rr) : y = allowS ∨ y ∈ rr := by
  unfold rulesL at h
  split at h
  · exact .inl (List.mem_singleton.mp h)
  · exact .inr h
theorem rulesL_ne (rr : List Str) : rulesL rr ≠ [] := by
  unfold rulesL
  split
  · simp
  · assumption
section
variable {ss dl ql rr : List Str}
theorem ag_seen (h : RecOk ss dl ql rr) : ∀ x ∈ ss ++ [seen], x ∈ seen :: AG := fun x hx => by
  rcases List.mem_append.mp hx with hx | hx
  · exact .tail _ (h.ag x hx)
  · rw [List.mem_singleton.mp hx]; exact .head _
theorem tab_rules (h : RecOk ss dl ql rr) : ∀ y ∈ rulesL rr, isUA y = false ∧ isK kD y = false ∧ isK kR y = false ∧ 10 ∉ tl y := fun y hy => by
  rcases rulesL_mem hy with rfl | hy
  · exact ⟨tab_al.1, tab_al.2.1, tab_al.2.2.1, tab_al.2.2.2.2⟩
  · have := tab_ru y (h.ru y hy)
    exact ⟨this.1, this.2.1, this.2.2.1, this.2.2.2.2⟩
theorem rules_filter (h : RecOk ss dl ql rr) : (rulesL rr).filter isRule = rr := by
  unfold rulesL
  split
  · rename_i e
    rw [e]
    exact filt_none fun y hy => by rw [List.mem_singleton.mp hy]; exact tab_al.2.2.2.1
  · exact filt_all fun y hy => (tab_ru y (h.ru y hy)).2.2.2.1
theorem line_free (h : RecOk ss dl ql rr) : ∀ y ∈ linesOf (ss ++ [seen]) dl ql rr, 10 ∉ tl y := fun y hy => by
  rw [linesOf_eq] at hy
  rcases List.mem_append.mp hy with hy | hy
  · rcases List.mem_append.mp hy with hy | hy
    · rcases List.mem_append.mp hy with hy | hy
      · obtain ⟨x, hx, rfl⟩ := List.mem_map.mp hy
        exact (tab_ua x (ag_seen h x hx)).2.2.2.2
      · exact (tab_cd y (h.de y hy)).2.2.2.2
    · exact (tab_rr y (h.ra y hy)).2.2.2.2
  · exact (tab_rules h y hy).2.2.2
theorem ua_filter (h : RecOk ss dl ql rr) (q : Str → Bool) : (linesOf (ss ++ [seen]) dl ql rr).filter (fun y => isUA y && q y) = ((ss ++ [seen]).filter fun x => q (uaLine x)).map uaLine := by
  rw [linesOf_eq, List.filter_append, List.filter_append, List.filter_append]
  have e1 : dl.filter (fun y => isUA y && q y) = [] := filt_none fun y hy => by rw [(tab_cd y (h.de y hy)).1, Bool.false_and]
  have e2 : ql.filter (fun y => isUA y && q y) = [] := filt_none fun y hy => by rw [(tab_rr y (h.ra y hy)).1, Bool.false_and]
  have e3 : (rulesL rr).filter (fun y => isUA y && q y) = [] := filt_none fun y hy => by rw [(tab_rules h y hy).1, Bool.false_and]
  rw [e1, e2, e3, List.append_nil, List.append_nil, List.append_nil, List.filter_map]
  congr 1
  refine List.filter_congr fun x hx => ?_
  show (isUA (uaLine x) && q (uaLine x)) = q (uaLine x)
  rw [(tab_ua x (ag_seen h x hx)).1, Bool.true_and]
theorem cd_filter (h : RecOk ss dl ql rr) : (linesOf (ss ++ [seen]) dl ql rr).filter (isK kD) = dl := by
  rw [linesOf_eq, List.filter_append, List.filter_append, List.filter_append]
  have e0 : ((ss ++ [seen]).map uaLine).filter (isK kD) = [] := filt_none fun y hy => by
    obtain ⟨x, hx, rfl⟩ := List.mem_map.mp hy
    exact (tab_ua x (ag_seen h x hx)).2.1
  have e1 : dl.filter (isK kD) = dl := filt_all fun y hy => (tab_cd y (h.de y hy)).2.1
  have e2 : ql.filter (isK kD) = [] := filt_none fun y hy => (tab_rr y (h.ra y hy)).2.1
  have e3 : (rulesL rr).filter (isK kD) = [] := filt_none fun y hy => (tab_rules h y hy).2.1
  rw [e0, e1, e2, e3, List.nil_append, List.append_nil, List.append_nil]
theorem rr_filter (h : RecOk ss dl ql rr) : (linesOf (ss ++ [seen]) dl ql rr).filter (isK kR) = ql := by
  rw [linesOf_eq, List.filter_append, List.filter_append, List.filter_append]
  have e0 : ((ss ++ [seen]).map uaLine).filter (isK kR) = [] := filt_none fun y hy => by
    obtain ⟨x, hx, rfl⟩ := List.mem_map.mp hy
    exact (tab_ua x (ag_seen h x hx)).2.2.1
  have e1 : dl.filter (isK kR) = [] := filt_none fun y hy => (tab_cd y (h.de y hy)).2.2.1
  have e2 : ql.filter (isK kR) = ql := filt_all fun y hy => (tab_rr y (h.ra y hy)).2.2.1
  have e3 : (rulesL rr).filter (isK kR) = [] := filt_none fun y hy => (tab_rules h y hy).2.2.1
  rw [e0, e1, e2, e3, List.nil_append, List.nil_append, List.append_nil]
theorem ru_filter (h : RecOk ss dl ql rr) : (linesOf (ss ++ [seen]) dl ql rr).filter isRule = rr := by
  rw [linesOf_eq, List.filter_append, List.filter_append, List.filter_append]
  have e0 : ((ss ++ [seen]).map uaLine).filter isRule = [] := filt_none fun y hy => by
    obtain ⟨x, hx, rfl⟩ := List.mem_map.mp hy
    exact (tab_ua x (ag_seen h x hx)).2.2.2.1
  have e1 : dl.filter isRule = [] := filt_none fun y hy => (tab_cd y (h.de y hy)).2.2.2.1
  have e2 : ql.filter isRule = [] := filt_none fun y hy => (tab_rr y (h.ra y hy)).2.2.2.1
  rw [e0, e1, e2, rules_filter h, List.nil_append, List.nil_append, List.nil_append]
theorem ua_any (h : RecOk ss dl ql rr) {x : Str} (hx : x ∈ seen :: AG) : ((linesOf (ss ++ [seen]) dl ql rr).any fun z => decide (z = uaLine x)) = (ss ++ [seen]).any fun a => decide (x = a) := by
  have hu := (tab_ua x hx).1
  rw [Bool.eq_iff_iff, List.any_eq_true, List.any_eq_true]
  constructor
  · rintro ⟨z, hz, e⟩
    obtain rfl := of_decide_eq_true e
    rw [linesOf_eq] at hz
    rcases List.mem_append.mp hz with hz | hz
    · rcases List.mem_append.mp hz with hz | hz
      · rcases List.mem_append.mp hz with hz | hz
        · obtain ⟨a, ha, e2⟩ := List.mem_map.mp hz
          exact ⟨a, ha, decide_eq_true (uaLine_inj e2).symm⟩
        · rw [(tab_cd _ (h.de _ hz)).1] at hu; cases hu
      · rw [(tab_rr _ (h.ra _ hz)).1] at hu; cases hu
    · rw [(tab_rules h _ hz).1] at hu; cases hu
  · rintro ⟨a, ha, e⟩
    obtain rfl := of_decide_eq_true e
    refine ⟨uaLine x, ?_, decide_eq_true rfl⟩
    rw [linesOf_eq]
    exact List.mem_append_left _ (List.mem_append_left _ (List.mem_append_left _ (List.mem_map.mpr ⟨x, ha, rfl⟩)))
end
theorem lastOne_app {a b : List Str} (ha : a.length ≤ 1) (hb : b.length ≤ 1) : lastOne (a ++ b) = if b = [] then a else b := by
  cases a with
  | nil =>
    cases b with
    | nil => rfl
    | cons y r =>
      cases r with
      | nil => rfl
      | cons z r => simp at hb
  | cons x t =>
    cases t with
    | nil =>
      cases b with
      | nil => rfl
      | cons y r =>
        cases r with
        | nil => rfl
        | cons z r => simp at hb
    | cons z t => simp at ha
/-- the agents, the delay's line .. of a merge -/
def mAg (s1 s2 : List Str) : List Str := s1.filter fun k => s2.any fun a => decide (k = a)
def mOne (a b : List Str) : List Str := if b = [] then a else b
theorem RecOk.merge {s1 d1 q1 r1 s2 d2 q2 r2 : List Str} (h1 : RecOk s1 d1 q1 r1) (h2 : RecOk s2 d2 q2 r2) : RecOk (mAg s1 s2) (mOne d1 d2) (mOne q1 q2) (r1 ++ r2) := by
  refine ⟨fun x hx => h1.ag x (List.mem_filter.mp hx).1, fun y hy => ?_, ?_, fun y hy => ?_, ?_, fun y hy => ?_⟩
  · unfold mOne at hy; split at hy
    · exact h1.de y hy
    · exact h2.de y hy
  · unfold mOne; split
    · exact h1.d1
    · exact h2.d1
  · unfold mOne at hy; split at hy
    · exact h1.ra y hy
    · exact h2.ra y hy
  · unfold mOne; split
    · exact h1.q1
    · exact h2.q1
  · rcases List.mem_append.mp hy with hy | hy
    · exact h1.ru y hy
    · exact h2.ru y hy
/-- what the law reckons of two whole texts' lines is the merge's whole text's lines -/
theorem merged_lines {s1 d1 q1 r1 s2 d2 q2 r2 : List Str} (h1 : RecOk s1 d1 q1 r1) (h2 : RecOk s2 d2 q2 r2) :
    mergedL (linesOf (s1 ++ [seen]) d1 q1 r1) (linesOf (s2 ++ [seen]) d2 q2 r2) = linesOf (mAg s1 s2 ++ [seen]) (mOne d1 d2) (mOne q1 q2) (r1 ++ r2) := by
  have ea : agentsL (linesOf (s1 ++ [seen]) d1 q1 r1) (linesOf (s2 ++ [seen]) d2 q2 r2) = (mAg s1 s2 ++ [seen]).map uaLine := by
    unfold agentsL
    rw [ua_filter h1]
    congr 1
    rw [List.filter_append]
    have e1 : s1.filter (fun x => (linesOf (s2 ++ [seen]) d2 q2 r2).any fun z => decide (z = uaLine x)) = mAg s1 s2 := by
      refine List.filter_congr fun x hx => ?_
      have hxA := h1.ag x hx
      rw [ua_any h2 (.tail _ hxA), List.any_append]
      have : ([seen].any fun a => decide (x = a)) = false := by
        rw [List.any_cons, List.any_nil, Bool.or_false]
        exact decide_eq_false fun e => seen_no (e ▸ hxA)
      rw [this, Bool.or_false]
    have e2 : [seen].filter (fun x => (linesOf (s2 ++ [seen]) d2 q2 r2).any fun z => decide (z = uaLine x)) = [seen] := by
      refine filt_all fun x hx => ?_
      rw [List.mem_singleton.mp hx, ua_any h2 (.head _), List.any_append]
      simp
    rw [e1, e2]
  have ed : toldOf (linesOf (s1 ++ [seen]) d1 q1 r1 ++ linesOf (s2 ++ [seen]) d2 q2 r2) kD = mOne d1 d2 := by
    show lastOne (List.filter (isK kD) (_ ++ _)) = _
    rw [List.filter_append, cd_filter h1, cd_filter h2, lastOne_app h1.d1 h2.d1]; rfl
  have er : toldOf (linesOf (s1 ++ [seen]) d1 q1 r1 ++ linesOf (s2 ++ [seen]) d2 q2 r2) kR = mOne q1 q2 := by
    show lastOne (List.filter (isK kR) (_ ++ _)) = _
    rw [List.filter_append, rr_filter h1, rr_filter h2, lastOne_app h1.q1 h2.q1]; rfl
  have eu : (linesOf (s1 ++ [seen]) d1 q1 r1 ++ linesOf (s2 ++ [seen]) d2 q2 r2).filter isRule = r1 ++ r2 := by
    rw [List.filter_append, ru_filter h1, ru_filter h2]
  unfold mergedL
  rw [ea, eu]
  show _ ++ (toldOf _ kD ++ (toldOf _ kR ++ [])) ++ _ = _
  rw [ed, er, List.append_nil, linesOf_eq, ← List.append_assoc]
  rfl
/-- the law's test of the bare lines -/
def bareL (l : List Str) : List Str := l.filter fun y => !decide (y = uaLine seen)
theorem bare_lines {ss dl ql rr : List Str} (h : RecOk ss dl ql rr) : bareL (linesOf (ss ++ [seen]) dl ql rr) = linesOf ss dl ql rr := by
  unfold bareL
  rw [linesOf_eq, linesOf_eq, List.map_append, List.filter_append, List.filter_append, List.filter_append, List.filter_append]
  have hu := (tab_ua seen (.head _)).1
  have ne : ∀ {y : Str}, isUA y = false → (!decide (y = uaLine seen)) = true := fun {y} e => by
    rw [decide_eq_false fun q => by rw [q, hu] at e; cases e]; rfl
  have e0 : (ss.map uaLine).filter (fun y => !decide (y = uaLine seen)) = ss.map uaLine := filt_all fun y hy => by
    obtain ⟨x, hx, rfl⟩ := List.mem_map.mp hy
    have hne : uaLine x ≠ uaLine seen := fun q => seen_no (by have := h.ag x hx; rwa [uaLine_inj q] at this)
    rw [decide_eq_false hne]; rfl
  have e1 : ([seen].map uaLine).filter (fun y => !decide (y = uaLine seen)) = [] := filt_none fun y hy => by
    rw [List.mem_singleton.mp hy, decide_eq_true rfl]; rfl
  rw [e0, e1, filt_all fun y hy => ne (tab_cd y (h.de y hy)).1, filt_all fun y hy => ne (tab_rr y (h.ra y hy)).1, filt_all fun y hy => ne (tab_rules h y hy).1, List.append_nil]
theorem bare_head {ss dl ql rr : List Str} (h : RecOk ss dl ql rr) : ∃ y r, linesOf ss dl ql rr = y :: r ∧ isUA y = !ss.isEmpty := by
  cases ss with
  | cons x t => exact ⟨uaLine x, _, rfl, (tab_ua x (.tail _ (h.ag x (.head _)))).1⟩
  | nil =>
    have hne : linesOf [] dl ql rr ≠ [] := fun e => by
      rw [linesOf_eq] at e
      exact rulesL_ne rr (List.append_eq_nil_iff.mp e).2
    obtain ⟨y, r, e⟩ := List.exists_cons_of_ne_nil hne
    refine ⟨y, r, e, ?_⟩
    have hy : y ∈ linesOf [] dl ql rr := e ▸ .head _
    rw [linesOf_eq] at hy
    show isUA y = false
    rcases List.mem_append.mp hy with hy | hy
    · rcases List.mem_append.mp hy with hy | hy
      · rcases List.mem_append.mp hy with hy | hy
        · cases hy
        · exact (tab_cd y (h.de y hy)).1
      · exact (tab_rr y (h.ra y hy)).1
    · exact (tab_rules h y hy).1
end Mine
namespace Mine
open PySem.Builtin
section
variable {prog : Program} {w : World} {A : Around} {E : Value → Shared → Prop} {s : Shared} {h₀ : Heap} {L : Addr} {m : Str → Option Value}
set_option maxHeartbeats 4000000 in
theorem set_delay {a dx ua rl : Addr} {de ra v : Value} {t1 t2 t3 t4 : Tok} {rest : List (Addr × Obj)} {Q : Unit → Shared → Prop} (F : Fr h₀ L s.heap m) (X : (hd6.heap_39 w.params).In h₀) (N : News h₀ L s.heap ((dx, entD w.params t1 t2 t3 t4 ua rl de ra) :: (a, instObj 59 dx) :: rest)) (hr : ∀ p ∈ (a, instObj 59 dx) :: rest, p.1 ≠ dx)
    (h : ∀ h' u, Fr h₀ L h' m → News h₀ L h' ((dx, entD w.params t1 t2 u t4 ua rl v ra) :: (a, instObj 59 dx) :: rest) → Q () { s with heap := h', toks := s.toks + 2 }) : wpAny (model prog w) A (setAttr (.ref a) (Str.ofString "delay") v) Q E s := by
  refine fillK ?_
  k_fill
  intro _ _
  have I : W.InstAt s.heap a (instObj 59 dx) 59 (some (entD w.params t1 t2 t3 t4 ua rl de ra)) := ⟨(N _ (.tail _ (.head _))).1, rfl, rfl, (N _ (.head _)).1⟩
  refine' set_dict F X N I ?k5 ?k6 ?k7 ?k8 ?k9 ?k10 ?k11 (.head hr) ?k13 ?_
  case k5 => exact rfl
  case k6 => k_is
  case k7 => k_is
  case k8 => k_is
  case k9 => k_is
  case k10 => k_get
  case k11 => k_put
  case k13 => exact Nat.le_of_ble_eq_true rfl
  exact fun h' F' N' => h h' _ F' N'
set_option maxHeartbeats 4000000 in
theorem set_rate {a dx ua rl : Addr} {de ra v : Value} {t1 t2 t3 t4 : Tok} {rest : List (Addr × Obj)} {Q : Unit → Shared → Prop} (F : Fr h₀ L s.heap m) (X : (hd6.heap_39 w.params).In h₀) (N : News h₀ L s.heap ((dx, entD w.params t1 t2 t3 t4 ua rl de ra) :: (a, instObj 59 dx) :: rest)) (hr : ∀ p ∈ (a, instObj 59 dx) :: rest, p.1 ≠ dx)
    (h : ∀ h' u, Fr h₀ L h' m → News h₀ L h' ((dx, entD w.params t1 t2 t3 u ua rl de v) :: (a, instObj 59 dx) :: rest) → Q () { s with heap := h', toks := s.toks + 2 }) : wpAny (model prog w) A (setAttr (.ref a) (Str.ofString "req_rate") v) Q E s := by
  refine fillK ?_
  k_fill
  intro _ _
  have I : W.InstAt s.heap a (instObj 59 dx) 59 (some (entD w.params t1 t2 t3 t4 ua rl de ra)) := ⟨(N _ (.tail _ (.head _))).1, rfl, rfl, (N _ (.head _)).1⟩
  refine' set_dict F X N I ?k5 ?k6 ?k7 ?k8 ?k9 ?k10 ?k11 (.head hr) ?k13 ?_
  case k5 => exact rfl
  case k6 => k_is
  case k7 => k_is
  case k8 => k_is
  case k9 => k_is
  case k10 => k_get
  case k11 => k_put
  case k13 => exact Nat.le_of_ble_eq_true rfl
  exact fun h' F' N' => h h' _ F' N'
set_option maxHeartbeats 4000000 in
theorem get_rl {expr : Bool} {a dx ua rl : Addr} {de ra : Value} {t1 t2 t3 t4 : Tok} {Q : Value → Shared → Prop} (F : Fr h₀ L s.heap m) (X : (hd6.heap_39 w.params).In h₀) (hA : s.heap.get? a = some (instObj 59 dx)) (hD : s.heap.get? dx = some (entD w.params t1 t2 t3 t4 ua rl de ra))
    (h : Q (.ref rl) { s with toks := s.toks + 1 }) : wpAny (model prog w) A (getAttr (.ref a) (Str.ofString "rulelines") expr) Q E s := by
  refine fillK ?_
  k_fill
  intro _ _
  have I : W.InstAt s.heap a (instObj 59 dx) 59 (some (entD w.params t1 t2 t3 t4 ua rl de ra)) := ⟨hA, rfl, rfl, hD⟩
  refine' get_own F X I ?k4 ?k5 ?k6 ?k7 ?k8 ?k9 h
  case k4 => k_is
  case k5 => k_is
  case k6 => k_is
  case k7 => k_is
  case k8 => k_get
  case k9 => rfl
set_option maxHeartbeats 4000000 in
theorem get_ua {expr : Bool} {a dx ua rl : Addr} {de ra : Value} {t1 t2 t3 t4 : Tok} {Q : Value → Shared → Prop} (F : Fr h₀ L s.heap m) (X : (hd6.heap_39 w.params).In h₀) (hA : s.heap.get? a = some (instObj 59 dx)) (hD : s.heap.get? dx = some (entD w.params t1 t2 t3 t4 ua rl de ra))
    (h : Q (.ref ua) { s with toks := s.toks + 1 }) : wpAny (model prog w) A (getAttr (.ref a) (Str.ofString "useragents") expr) Q E s := by
  refine fillK ?_
  k_fill
  intro _ _
  have I : W.InstAt s.heap a (instObj 59 dx) 59 (some (entD w.params t1 t2 t3 t4 ua rl de ra)) := ⟨hA, rfl, rfl, hD⟩
  refine' get_own F X I ?k4 ?k5 ?k6 ?k7 ?k8 ?k9 h
  case k4 => k_is
  case k5 => k_is
  case k6 => k_is
  case k7 => k_is
  case k8 => k_get
  case k9 => rfl
set_option maxHeartbeats 4000000 in
theorem set_ua {a dx ua rl : Addr} {de ra : Value} {v : Addr} {t1 t2 t3 t4 : Tok} {rest : List (Addr × Obj)} {Q : Unit → Shared → Prop} (F : Fr h₀ L s.heap m) (X : (hd6.heap_39 w.params).In h₀) (N : News h₀ L s.heap ((dx, entD w.params t1 t2 t3 t4 ua rl de ra) :: (a, instObj 59 dx) :: rest)) (hr : ∀ p ∈ (a, instObj 59 dx) :: rest, p.1 ≠ dx)
    (h : ∀ h' u, Fr h₀ L h' m → News h₀ L h' ((dx, entD w.params u t2 t3 t4 v rl de ra) :: (a, instObj 59 dx) :: rest) → Q () { s with heap := h', toks := s.toks + 2 }) : wpAny (model prog w) A (setAttr (.ref a) (Str.ofString "useragents") (.ref v)) Q E s := by
  refine fillK ?_
  k_fill
  intro _ _
  have I : W.InstAt s.heap a (instObj 59 dx) 59 (some (entD w.params t1 t2 t3 t4 ua rl de ra)) := ⟨(N _ (.tail _ (.head _))).1, rfl, rfl, (N _ (.head _)).1⟩
  refine' set_dict F X N I ?k5 ?k6 ?k7 ?k8 ?k9 ?k10 ?k11 (.head hr) ?k13 ?_
  case k5 => exact rfl
  case k6 => k_is
  case k7 => k_is
  case k8 => k_is
  case k9 => k_is
  case k10 => k_get
  case k11 => k_put
  case k13 => exact Nat.le_of_ble_eq_true rfl
  exact fun h' F' N' => h h' _ F' N'
end
end Mine
namespace Mine
open PySem.Builtin

/-- an entry with its data and the lines that it writes -/
structure E6 where
  (a dx ua rl : Addr)
  (vs rs : List Value)
  (ss rr dl ql : List Str)
  (de ra : Value)
  (t1 t2 t3 t4 : Tok)
  (n m : Nat)
def E6.objs (P : Params) (e : E6) : List (Addr × Obj) := [(e.ua, W.listOf e.vs.toArray e.n), (e.rl, W.listOf e.rs.toArray e.m), (e.a, instObj 59 e.dx), (e.dx, entD P e.t1 e.t2 e.t3 e.t4 e.ua e.rl e.de e.ra)]
def flat6 (P : Params) (es : List E6) : List (Addr × Obj) := es.flatMap (E6.objs P)
abbrev refs6 (es : List E6) : List Value := es.map fun e => Value.ref e.a
def RateIn (P : Params) (pool : List (Addr × Obj)) (q : Addr) (a b : Int) : Prop := ∃ dq u r t1 t2 t3 t4 t5 t6 t7 t8, (q, instObj 59 dq) ∈ pool ∧ (dq, rateD P t1 t2 t3 t4 t5 t6 u r (.int a t7) (.int b t8)) ∈ pool
def RaIn (P : Params) (pool : List (Addr × Obj)) (v : Value) (ql : List Str) : Prop := (v = .none ∧ ql = []) ∨ (∃ q, v = .ref q ∧ RateIn P pool q 0 1 ∧ ql = [Str.ofString "Request-rate: 0/1"]) ∨ ∃ q, v = .ref q ∧ RateIn P pool q 30 7 ∧ ql = [Str.ofString "Request-rate: 30/7"]
theorem RateIn.more {P : Params} {pool pool' : List (Addr × Obj)} {q : Addr} {a b : Int} (h : RateIn P pool q a b) (k : ∀ p ∈ pool, p ∈ pool') : RateIn P pool' q a b := by
  obtain ⟨dq, u, r, t1, t2, t3, t4, t5, t6, t7, t8, h1, h2⟩ := h
  exact ⟨dq, u, r, t1, t2, t3, t4, t5, t6, t7, t8, k _ h1, k _ h2⟩
theorem RaIn.more {P : Params} {pool pool' : List (Addr × Obj)} {v : Value} {ql : List Str} (h : RaIn P pool v ql) (k : ∀ p ∈ pool, p ∈ pool') : RaIn P pool' v ql := by
  rcases h with h | ⟨q, e, h, e2⟩ | ⟨q, e, h, e2⟩
  · exact .inl h
  · exact .inr (.inl ⟨q, e, h.more k, e2⟩)
  · exact .inr (.inr ⟨q, e, h.more k, e2⟩)
theorem RaIn.at {P : Params} {pool : List (Addr × Obj)} {v : Value} {ql : List Str} {h : Heap} (r : RaIn P pool v ql) (k : ∀ p ∈ pool, h.get? p.1 = some p.2) : RaOk P h v ql := by
  have go : ∀ {q : Addr} {a b : Int}, RateIn P pool q a b → RateIs P h q a b := by
    rintro q a b ⟨dq, u, r, t1, t2, t3, t4, t5, t6, t7, t8, h1, h2⟩
    exact ⟨dq, u, r, t1, t2, t3, t4, t5, t6, t7, t8, k _ h1, k _ h2⟩
  rcases r with h | ⟨q, e, h, e2⟩ | ⟨q, e, h, e2⟩
  · exact .inl h
  · exact .inr (.inl ⟨q, e, go h, e2⟩)
  · exact .inr (.inr ⟨q, e, go h, e2⟩)
structure E6Ok (P : Params) (pool : List (Addr × Obj)) (i : Nat) (e : E6) : Prop where
  ss : StrsAre e.vs e.ss
  rs : StrsAre e.rs e.rr
  de : DlOk e.de e.dl
  ra : RaIn P pool e.ra e.ql
  vl : e.vs.length ≤ i + 1
  rl : e.rs.length ≤ i
  ok : RecOk e.ss e.dl e.ql e.rr
theorem E6Ok.le {P : Params} {pool pool' : List (Addr × Obj)} {i j : Nat} {e : E6} (h : E6Ok P pool i e) (k : ∀ p ∈ pool, p ∈ pool') (hij : i ≤ j) : E6Ok P pool' j e :=
  ⟨h.ss, h.rs, h.de, h.ra.more k, Nat.le_trans h.vl (Nat.succ_le_succ hij), Nat.le_trans h.rl hij, h.ok⟩
abbrev Nd (l : List (Addr × Obj)) : Prop := @List.Nodup Nat (l.map Prod.fst)
/-- the state of the law's first loops -/
def J6 (P : Params) (lO : Addr) (as : List Addr) (base : List (Addr × Obj)) (i : Nat) (news : List (Addr × Obj)) : Prop :=
  ∃ es c pool, news = (lO, W.listOf (List.toArray (refs6 es)) c) :: (flat6 P es ++ pool) ∧ es.map (·.a) = as ∧ Nd news ∧ (∀ p ∈ base, p ∈ pool) ∧ ∀ e ∈ es, E6Ok P pool i e
theorem flat6_split {P : Params} (pre post : List E6) (e : E6) : flat6 P (pre ++ e :: post) = flat6 P pre ++ (e.objs P ++ flat6 P post) := by simp [flat6]
theorem split_at {α : Type} {l : List α} {k : Nat} {x : α} (h : l[k]? = some x) : ∃ pre post, l = pre ++ x :: post ∧ pre.length = k := by
  obtain ⟨hk, rfl⟩ := List.getElem?_eq_some_iff.mp h
  refine ⟨l.take k, l.drop (k + 1), ?_, by rw [List.length_take]; omega⟩
  rw [← List.drop_eq_getElem_cons hk, List.take_append_drop]
/-- addresses by count -/
theorem nd_perm {a b : List Nat} (h : ∀ x, a.count x = b.count x) (n : b.Nodup) : a.Nodup := (List.perm_iff_count.mpr h).nodup_iff.mpr n
theorem nd_same {P : Params} {lO : Addr} {o o' : Obj} {pre post : List E6} {e e' : E6} {pool : List (Addr × Obj)} (h : Nd ((lO, o) :: (flat6 P (pre ++ e :: post) ++ pool))) (h1 : e'.ua = e.ua) (h2 : e'.rl = e.rl) (h3 : e'.a = e.a) (h4 : e'.dx = e.dx) :
    Nd ((lO, o') :: (flat6 P (pre ++ e' :: post) ++ pool)) := by
  have e0 : ((lO, o') :: (flat6 P (pre ++ e' :: post) ++ pool)).map Prod.fst = ((lO, o) :: (flat6 P (pre ++ e :: post) ++ pool)).map Prod.fst := by
    rw [flat6_split, flat6_split]
    simp only [E6.objs, List.map_cons, List.map_append, List.map_nil, h1, h2, h3, h4]
  show @List.Nodup Nat _
  rw [e0]; exact h
theorem nd_ua {P : Params} {lO : Addr} {o o' : Obj} {pre post : List E6} {e e' : E6} {pool : List (Addr × Obj)} (h : Nd ((lO, o) :: (flat6 P (pre ++ e :: post) ++ pool))) (h1 : ∀ p ∈ (lO, o) :: (flat6 P (pre ++ e :: post) ++ pool), p.1 ≠ e'.ua) (h2 : e'.rl = e.rl) (h3 : e'.a = e.a) (h4 : e'.dx = e.dx) :
    Nd ((lO, o') :: (flat6 P (pre ++ e' :: post) ++ pool)) := by
  have hn : @List.Nodup Nat (e'.ua :: ((lO, o) :: (flat6 P (pre ++ e :: post) ++ pool)).map Prod.fst) := List.nodup_cons.mpr ⟨fun hm => by
    obtain ⟨p, hp, q⟩ := List.mem_map.mp hm
    exact h1 p hp q, h⟩
  have hn2 : @List.Nodup Nat (e.ua :: ((lO, o') :: (flat6 P (pre ++ e' :: post) ++ pool)).map Prod.fst) := by
    refine nd_perm (fun x => ?_) hn
    rw [flat6_split, flat6_split]
    simp only [E6.objs, List.map_cons, List.map_append, List.map_nil, h2, h3, h4, List.count_cons, List.count_append, List.count_nil]
    omega
  exact (List.nodup_cons.mp hn2).2
theorem nd_more {P : Params} {lO : Addr} {o o' : Obj} {pre post : List E6} {e e' : E6} {pool more : List (Addr × Obj)} (h : Nd ((lO, o) :: (flat6 P (pre ++ e :: post) ++ pool))) (h1 : e'.ua = e.ua) (h2 : e'.rl = e.rl) (h3 : e'.a = e.a) (h4 : e'.dx = e.dx)
    (h5 : Nd more) (h6 : ∀ p ∈ (lO, o) :: (flat6 P (pre ++ e :: post) ++ pool), ∀ q ∈ more, p.1 ≠ q.1) : Nd ((lO, o') :: (flat6 P (pre ++ e' :: post) ++ (more ++ pool))) := by
  have hn : @List.Nodup Nat (more.map Prod.fst ++ ((lO, o) :: (flat6 P (pre ++ e :: post) ++ pool)).map Prod.fst) := List.nodup_append.mpr ⟨h5, h, fun a ha b hb q => by
    obtain ⟨p, hp, rfl⟩ := List.mem_map.mp ha
    obtain ⟨p2, hp2, rfl⟩ := List.mem_map.mp hb
    exact h6 p2 hp2 p hp q.symm⟩
  refine nd_perm (fun x => ?_) hn
  rw [flat6_split, flat6_split]
  simp only [E6.objs, List.map_cons, List.map_append, List.map_nil, h1, h2, h3, h4, List.count_cons, List.count_append, List.count_nil]
  omega
/-- one entry apart from all else -/
theorem nd_open {P : Params} {lO : Addr} {o : Obj} {pre post : List E6} {e : E6} {pool : List (Addr × Obj)} (h : Nd ((lO, o) :: (flat6 P (pre ++ e :: post) ++ pool))) :
    @List.Nodup Nat [lO, e.ua, e.rl, e.a, e.dx] ∧ ∀ p ∈ (flat6 P pre ++ flat6 P post) ++ pool, p.1 ∉ [lO, e.ua, e.rl, e.a, e.dx] := by
  have hn : @List.Nodup Nat ([lO, e.ua, e.rl, e.a, e.dx] ++ ((flat6 P pre ++ flat6 P post) ++ pool).map Prod.fst) := by
    refine nd_perm (fun x => ?_) h
    rw [flat6_split]
    simp only [E6.objs, List.map_cons, List.map_append, List.map_nil, List.count_cons, List.count_append, List.count_nil]
    omega
  obtain ⟨h1, _, h3⟩ := List.nodup_append.mp hn
  exact ⟨h1, fun p hp hm => h3 _ hm _ (List.mem_map.mpr ⟨p, hp, rfl⟩) rfl⟩
/-- a turn's end -/
theorem turn6 {P : Params} {lO I L : Addr} {h₀ h' : Heap} {as : List Addr} {base own pool pool' : List (Addr × Obj)} {i c' : Nat} {m₀ m₂ : Str → Option Value} {cs : List Str} {s₁ : Shared} {tk : Nat} {pre post : List E6} {e e' : E6} {news : List (Addr × Obj)}
    (F : Fr h₀ L h' m₂) (N : News h₀ L h' news) (h0 : ∀ p ∈ own, p ∈ news) (h1 : (lO, W.listOf (List.toArray (refs6 (pre ++ e :: post))) c') ∈ news) (h2 : ∀ p ∈ e'.objs P, p ∈ news) (h3 : ∀ p ∈ flat6 P pre ++ flat6 P post, p ∈ news) (h4 : ∀ p ∈ pool', p ∈ news)
    (ha : e'.a = e.a) (has : (pre ++ e :: post).map (·.a) = as) (hnd : Nd ((lO, W.listOf (List.toArray (refs6 (pre ++ e :: post))) c') :: (flat6 P (pre ++ e' :: post) ++ pool'))) (hb : ∀ p ∈ base, p ∈ pool) (hpp : ∀ p ∈ pool, p ∈ pool') (hok : ∀ x ∈ pre ++ e :: post, E6Ok P pool i x) (hok' : E6Ok P pool' (i + 1) e')
    (hI : ∀ p ∈ (lO, W.listOf (List.toArray (refs6 (pre ++ e :: post))) c') :: (flat6 P (pre ++ e' :: post) ++ pool'), p.1 ≠ I) (hm : ∀ y, y ∉ cs → m₂ y = m₀ y) :
    LoopStepU h₀ L [I] own (fun m news => (∀ y, y ∉ cs → m y = m₀ y) ∧ J6 P lO as base (i + 1) news) s₁ .next { s₁ with heap := h', toks := tk } := by
  have er : refs6 (pre ++ e' :: post) = refs6 (pre ++ e :: post) := by simp [refs6, ha]
  refine LoopStepU.intro F (news₂ := (lO, W.listOf (List.toArray (refs6 (pre ++ e' :: post))) c') :: (flat6 P (pre ++ e' :: post) ++ pool')) (fun p hp => N p ?_) (fun p hp => ?_) ⟨hm, pre ++ e' :: post, c', pool', rfl, ?_, ?_, fun p hp => hpp p (hb p hp), fun x hx => ?_⟩
  · rcases List.mem_append.mp hp with hp | hp
    · exact h0 p hp
    · rw [er] at hp
      rcases List.mem_cons.mp hp with rfl | hp
      · exact h1
      · rcases List.mem_append.mp hp with hp | hp
        · rw [flat6_split] at hp
          rcases List.mem_append.mp hp with hp | hp
          · exact h3 p (List.mem_append_left _ hp)
          · rcases List.mem_append.mp hp with hp | hp
            · exact h2 p hp
            · exact h3 p (List.mem_append_right _ hp)
        · exact h4 p hp
  · rw [List.mem_singleton]
    rw [er] at hp
    exact hI p hp
  · rw [← has]; simp [ha]
  · rw [er]; exact hnd
  · rcases List.mem_append.mp hx with hx | hx
    · exact (hok x (List.mem_append_left _ hx)).le hpp (Nat.le_succ _)
    · rcases List.mem_cons.mp hx with rfl | hx
      · exact hok'
      · exact (hok x (List.mem_append_right _ (.tail _ hx))).le hpp (Nat.le_succ _)
theorem RecOk.agent {ss dl ql rr : List Str} (h : RecOk ss dl ql rr) {x : Str} (hx : x ∈ AG) : RecOk (ss ++ [x]) dl ql rr :=
  ⟨fun y hy => by
    rcases List.mem_append.mp hy with hy | hy
    · exact h.ag y hy
    · rw [List.mem_singleton.mp hy]; exact hx, h.de, h.d1, h.ra, h.q1, h.ru⟩
theorem RecOk.rule {ss dl ql rr : List Str} (h : RecOk ss dl ql rr) {x : Str} (hx : x ∈ RU) : RecOk ss dl ql (rr ++ [x]) :=
  ⟨h.ag, h.de, h.d1, h.ra, h.q1, fun y hy => by
    rcases List.mem_append.mp hy with hy | hy
    · exact h.ru y hy
    · rw [List.mem_singleton.mp hy]; exact hx⟩
theorem five_at {v0 v1 v2 v3 v4 : Value} (q : Int) : ∃ v, (v = v0 ∨ v = v1 ∨ v = v2 ∨ v = v3 ∨ v = v4) ∧ [v0, v1, v2, v3, v4][(q.fmod 5).toNat]? = some v := by
  have h0 : 0 ≤ q.fmod 5 := Int.fmod_nonneg_of_pos _ (by decide)
  have h5 : q.fmod 5 < 5 := Int.fmod_lt_of_pos _ (by decide)
  have : (q.fmod 5).toNat < 5 := by omega
  match hh : (q.fmod 5).toNat, this with
  | 0, _ => exact ⟨v0, .inl rfl, rfl⟩
  | 1, _ => exact ⟨v1, .inr (.inl rfl), rfl⟩
  | 2, _ => exact ⟨v2, .inr (.inr (.inl rfl)), rfl⟩
  | 3, _ => exact ⟨v3, .inr (.inr (.inr (.inl rfl))), rfl⟩
  | 4, _ => exact ⟨v4, .inr (.inr (.inr (.inr rfl))), rfl⟩
theorem three_at {v0 v1 v2 : Value} (q : Int) : ∃ v, (v = v0 ∨ v = v1 ∨ v = v2) ∧ [v0, v1, v2][(q.fmod 3).toNat]? = some v := by
  have h0 : 0 ≤ q.fmod 3 := Int.fmod_nonneg_of_pos _ (by decide)
  have h5 : q.fmod 3 < 3 := Int.fmod_lt_of_pos _ (by decide)
  have : (q.fmod 3).toNat < 3 := by omega
  match hh : (q.fmod 3).toNat, this with
  | 0, _ => exact ⟨v0, .inl rfl, rfl⟩
  | 1, _ => exact ⟨v1, .inr (.inl rfl), rfl⟩
  | 2, _ => exact ⟨v2, .inr (.inr rfl), rfl⟩
theorem fmod_fit (q : Int) {d : Int} (h : 0 < d) (h2 : d ≤ 10) : 0 ≤ q.fmod d ∧ q.fmod d < 2 ^ 63 := by
  have h0 : 0 ≤ q.fmod d := Int.fmod_nonneg_of_pos _ h
  have h5 : q.fmod d < d := Int.fmod_lt_of_pos _ h
  omega
theorem dl_at {v : Value} {t1 t2 : Tok} (h : v = .int 0 t1 ∨ v = .int 12 t2 ∨ v = .none) : ∃ dl, DlOk v dl ∧ (∀ y ∈ dl, y ∈ CD) ∧ dl.length ≤ 1 := by
  rcases h with rfl | rfl | rfl
  · exact ⟨_, .inr (.inl ⟨_, rfl, rfl⟩), fun y hy => by rw [List.mem_singleton.mp hy]; exact .head _, Nat.le_refl _⟩
  · exact ⟨_, .inr (.inr ⟨_, rfl, rfl⟩), fun y hy => by rw [List.mem_singleton.mp hy]; exact .tail _ (.head _), Nat.le_refl _⟩
  · exact ⟨[], .inl ⟨rfl, rfl⟩, (fun _ h => nomatch h), Nat.zero_le _⟩
/-- a turn's end where no address is new -/
theorem turn6s {P : Params} {lO I L : Addr} {h₀ h' : Heap} {as : List Addr} {base own pool R : List (Addr × Obj)} {i c : Nat} {m₀ m₂ : Str → Option Value} {cs : List Str} {s₁ : Shared} {tk : Nat} {pre post : List E6} {e e' : E6}
    (F : Fr h₀ L h' m₂) (N : News h₀ L h' (e'.objs P ++ ((lO, W.listOf (List.toArray (refs6 (pre ++ e :: post))) c) :: R))) (hu : e'.ua = e.ua) (hr : e'.rl = e.rl) (ha : e'.a = e.a) (hd : e'.dx = e.dx)
    (m1 : ∀ p ∈ flat6 P pre ++ flat6 P post, p ∈ R) (m2 : ∀ p ∈ pool, p ∈ R) (m3 : ∀ p ∈ own, p ∈ R) (has : (pre ++ e :: post).map (·.a) = as) (hnd : Nd ((lO, W.listOf (List.toArray (refs6 (pre ++ e :: post))) c) :: (flat6 P (pre ++ e :: post) ++ pool))) (hb : ∀ p ∈ base, p ∈ pool)
    (hok : ∀ x ∈ pre ++ e :: post, E6Ok P pool i x) (hok' : E6Ok P pool (i + 1) e') (hI : ∀ p ∈ (lO, W.listOf (List.toArray (refs6 (pre ++ e :: post))) c) :: (flat6 P (pre ++ e :: post) ++ pool), p.1 ≠ I) (hm : ∀ y, y ∉ cs → m₂ y = m₀ y) :
    LoopStepU h₀ L [I] own (fun m news => (∀ y, y ∉ cs → m y = m₀ y) ∧ J6 P lO as base (i + 1) news) s₁ .next { s₁ with heap := h', toks := tk } := by
  refine turn6 (c' := c) (e' := e') F N (fun p hp => List.mem_append_right _ (.tail _ (m3 p hp))) (List.mem_append_right _ (.head _)) (fun p hp => List.mem_append_left _ hp) (fun p hp => List.mem_append_right _ (.tail _ (m1 p hp))) (fun p hp => List.mem_append_right _ (.tail _ (m2 p hp))) ha has (nd_same hnd hu hr ha hd) hb (fun p hp => hp) hok hok' (fun p hp => ?_) hm
  have e0 : ((lO, W.listOf (List.toArray (refs6 (pre ++ e :: post))) c) :: (flat6 P (pre ++ e' :: post) ++ pool)).map Prod.fst = ((lO, W.listOf (List.toArray (refs6 (pre ++ e :: post))) c) :: (flat6 P (pre ++ e :: post) ++ pool)).map Prod.fst := by
    rw [flat6_split, flat6_split]
    simp only [E6.objs, List.map_cons, List.map_append, List.map_nil, hu, hr, ha, hd]
  have hm2 := List.mem_map_of_mem (f := Prod.fst) hp
  rw [e0] at hm2
  obtain ⟨p2, hp2, e2⟩ := List.mem_map.mp hm2
  rw [← e2]; exact hI p2 hp2
end Mine
namespace Mine
open PySem.Builtin
section
variable {prog : Program} {w : World} {A : Around} {E : Value → Shared → Prop} {s : Shared} {h₀ : Heap} {L : Addr} {m : Str → Option Value}
set_option maxHeartbeats 4000000 in
theorem get_ra {expr : Bool} {a dx ua rl : Addr} {de ra : Value} {t1 t2 t3 t4 : Tok} {Q : Value → Shared → Prop} (F : Fr h₀ L s.heap m) (X : (hd6.heap_39 w.params).In h₀) (hA : s.heap.get? a = some (instObj 59 dx)) (hD : s.heap.get? dx = some (entD w.params t1 t2 t3 t4 ua rl de ra))
    (hh : handedIn ra = true) (h : Q ra { s with toks := s.toks + 1 }) : wpAny (model prog w) A (getAttr (.ref a) (Str.ofString "req_rate") expr) Q E s := by
  refine fillK ?_
  k_fill
  intro _ _
  have I : W.InstAt s.heap a (instObj 59 dx) 59 (some (entD w.params t1 t2 t3 t4 ua rl de ra)) := ⟨hA, rfl, rfl, hD⟩
  refine' get_own F X I ?k4 ?k5 ?k6 ?k7 ?k8 ?k9 h
  case k4 => k_is
  case k5 => k_is
  case k6 => k_is
  case k7 => k_is
  case k8 => k_get
  case k9 => exact hh
set_option maxHeartbeats 4000000 in
theorem set_req {a dx ua rl : Addr} {v : Value} {t1 t2 t3 t4 : Tok} {rest : List (Addr × Obj)} {Q : Unit → Shared → Prop} (F : Fr h₀ L s.heap m) (X : (hd6.heap_39 w.params).In h₀) (N : News h₀ L s.heap ((dx, (dictOf [⟨PyData.keyHash w.params (Str.ofString "useragents"), .str (Str.ofString "useragents") t1, .ref ua⟩, ⟨PyData.keyHash w.params (Str.ofString "rulelines"), .str (Str.ofString "rulelines") t2, .ref rl⟩, ⟨PyData.keyHash w.params (Str.ofString "delay"), .str (Str.ofString "delay") t3, .none⟩, ⟨PyData.keyHash w.params (Str.ofString "req_rate"), .str (Str.ofString "req_rate") t4, .none⟩] 4)) :: (a, instObj 59 dx) :: rest)) (hr : ∀ p ∈ (a, instObj 59 dx) :: rest, p.1 ≠ dx)
    (h : ∀ h' u, Fr h₀ L h' m → News h₀ L h' ((dx, (dictOf [⟨PyData.keyHash w.params (Str.ofString "useragents"), .str (Str.ofString "useragents") t1, .ref ua⟩, ⟨PyData.keyHash w.params (Str.ofString "rulelines"), .str (Str.ofString "rulelines") t2, .ref rl⟩, ⟨PyData.keyHash w.params (Str.ofString "delay"), .str (Str.ofString "delay") t3, .none⟩, ⟨PyData.keyHash w.params (Str.ofString "req_rate"), .str (Str.ofString "req_rate") t4, .none⟩, ⟨PyData.keyHash w.params (Str.ofString "requests"), .str (Str.ofString "requests") u, v⟩] 5)) :: (a, instObj 59 dx) :: rest) → Q () { s with heap := h', toks := s.toks + 2 }) : wpAny (model prog w) A (setAttr (.ref a) (Str.ofString "requests") v) Q E s := by
  refine fillK ?_
  k_fill
  intro _ _
  have I : W.InstAt s.heap a (instObj 59 dx) 59 (some ((dictOf [⟨PyData.keyHash w.params (Str.ofString "useragents"), .str (Str.ofString "useragents") t1, .ref ua⟩, ⟨PyData.keyHash w.params (Str.ofString "rulelines"), .str (Str.ofString "rulelines") t2, .ref rl⟩, ⟨PyData.keyHash w.params (Str.ofString "delay"), .str (Str.ofString "delay") t3, .none⟩, ⟨PyData.keyHash w.params (Str.ofString "req_rate"), .str (Str.ofString "req_rate") t4, .none⟩] 4))) := ⟨(N _ (.tail _ (.head _))).1, rfl, rfl, (N _ (.head _)).1⟩
  refine' set_dict F X N I ?k5 ?k6 ?k7 ?k8 ?k9 ?k10 ?k11 (.head hr) ?k13 ?_
  case k5 => exact rfl
  case k6 => k_is
  case k7 => k_is
  case k8 => k_is
  case k9 => k_is
  case k10 => k_get
  case k11 => k_put
  case k13 => exact Nat.le_of_ble_eq_true rfl
  exact fun h' F' N' => h h' _ F' N'
set_option maxHeartbeats 4000000 in
theorem set_sec {a dx ua rl : Addr} {x v : Value} {t1 t2 t3 t4 t5 : Tok} {rest : List (Addr × Obj)} {Q : Unit → Shared → Prop} (F : Fr h₀ L s.heap m) (X : (hd6.heap_39 w.params).In h₀) (N : News h₀ L s.heap ((dx, (dictOf [⟨PyData.keyHash w.params (Str.ofString "useragents"), .str (Str.ofString "useragents") t1, .ref ua⟩, ⟨PyData.keyHash w.params (Str.ofString "rulelines"), .str (Str.ofString "rulelines") t2, .ref rl⟩, ⟨PyData.keyHash w.params (Str.ofString "delay"), .str (Str.ofString "delay") t3, .none⟩, ⟨PyData.keyHash w.params (Str.ofString "req_rate"), .str (Str.ofString "req_rate") t4, .none⟩, ⟨PyData.keyHash w.params (Str.ofString "requests"), .str (Str.ofString "requests") t5, x⟩] 5)) :: (a, instObj 59 dx) :: rest)) (hr : ∀ p ∈ (a, instObj 59 dx) :: rest, p.1 ≠ dx)
    (h : ∀ h' u, Fr h₀ L h' m → News h₀ L h' ((dx, (dictOf [⟨PyData.keyHash w.params (Str.ofString "useragents"), .str (Str.ofString "useragents") t1, .ref ua⟩, ⟨PyData.keyHash w.params (Str.ofString "rulelines"), .str (Str.ofString "rulelines") t2, .ref rl⟩, ⟨PyData.keyHash w.params (Str.ofString "delay"), .str (Str.ofString "delay") t3, .none⟩, ⟨PyData.keyHash w.params (Str.ofString "req_rate"), .str (Str.ofString "req_rate") t4, .none⟩, ⟨PyData.keyHash w.params (Str.ofString "requests"), .str (Str.ofString "requests") t5, x⟩, ⟨PyData.keyHash w.params (Str.ofString "seconds"), .str (Str.ofString "seconds") u, v⟩] 6)) :: (a, instObj 59 dx) :: rest) → Q () { s with heap := h', toks := s.toks + 2 }) : wpAny (model prog w) A (setAttr (.ref a) (Str.ofString "seconds") v) Q E s := by
  refine fillK ?_
  k_fill
  intro _ _
  have I : W.InstAt s.heap a (instObj 59 dx) 59 (some ((dictOf [⟨PyData.keyHash w.params (Str.ofString "useragents"), .str (Str.ofString "useragents") t1, .ref ua⟩, ⟨PyData.keyHash w.params (Str.ofString "rulelines"), .str (Str.ofString "rulelines") t2, .ref rl⟩, ⟨PyData.keyHash w.params (Str.ofString "delay"), .str (Str.ofString "delay") t3, .none⟩, ⟨PyData.keyHash w.params (Str.ofString "req_rate"), .str (Str.ofString "req_rate") t4, .none⟩, ⟨PyData.keyHash w.params (Str.ofString "requests"), .str (Str.ofString "requests") t5, x⟩] 5))) := ⟨(N _ (.tail _ (.head _))).1, rfl, rfl, (N _ (.head _)).1⟩
  refine' set_dict F X N I ?k5 ?k6 ?k7 ?k8 ?k9 ?k10 ?k11 (.head hr) ?k13 ?_
  case k5 => exact rfl
  case k6 => k_is
  case k7 => k_is
  case k8 => k_is
  case k9 => k_is
  case k10 => k_get
  case k11 => k_put
  case k13 => exact Nat.le_of_ble_eq_true rfl
  exact fun h' F' N' => h h' _ F' N'
end
theorem mem_up {α : Type} {a b c d x : α} {r : List α} (h : x ∈ d :: c :: a :: b :: r) : x ∈ a :: b :: c :: d :: r := by
  simp only [List.mem_cons] at h ⊢
  rcases h with h | h | h | h | h
  · exact .inr (.inr (.inr (.inl h)))
  · exact .inr (.inr (.inl h))
  · exact .inl h
  · exact .inr (.inl h)
  · exact .inr (.inr (.inr (.inr h)))
theorem mem_dn {α : Type} {a b c d x : α} {r : List α} (h : x ∈ a :: b :: c :: d :: r) : x ∈ d :: c :: a :: b :: r := by
  simp only [List.mem_cons] at h ⊢
  rcases h with h | h | h | h | h
  · exact .inr (.inr (.inl h))
  · exact .inr (.inr (.inr (.inl h)))
  · exact .inr (.inl h)
  · exact .inl h
  · exact .inr (.inr (.inr (.inr h)))
theorem allLt_mem {d : Nat} : ∀ {l : List (Addr × Obj)}, AllLt d l → ∀ p ∈ l, @LT.lt Nat _ p.1 d
  | [], _, _, h => nomatch h
  | q :: r, hl, p, h => by
    rcases List.mem_cons.mp h with rfl | h
    · exact hl.1
    · exact allLt_mem hl.2 p h
/-- the first or the second of two ints -/
theorem two_at {t1 t2 : Tok} {a b z : Int} (h0 : 0 ≤ z) (h2 : z < 2) : ∃ t, [Value.int a t1, Value.int b t2][z.toNat]? = some (.int (if z = 0 then a else b) t) := by
  have : z = 0 ∨ z = 1 := by omega
  rcases this with rfl | rfl
  · exact ⟨t1, rfl⟩
  · exact ⟨t2, rfl⟩
end Mine
namespace Mine
open PySem.Builtin

/-- an entry's whole text -/
def wholeT (e : E6) : Str := Txt.join nl (linesOf (e.ss ++ [seen]) e.dl e.ql e.rr)
/-- the word of `[_law_whole(one) for one in ones]` -/
def WhW (es : List E6) (i : Nat) (ys : List Value) (h : Heap) : Prop := (∀ e ∈ es, ∃ n, h.get? e.ua = some (W.listOf e.vs.toArray n)) ∧ StrsAre ys ((es.take i).map wholeT)
theorem whw_frame (es : List E6) : MutFrame (es.map (·.ua)) (WhW es) := fun i ys h h' k hJ => ⟨fun e he => by
  obtain ⟨n, hn⟩ := hJ.1 e he
  exact ⟨n, k _ _ (List.mem_map.mpr ⟨e, he, rfl⟩) hn⟩, hJ.2⟩
/-- the changed lists stand apart -/
theorem nd_mut {P : Params} {lO : Addr} {o : Obj} {es : List E6} {pool : List (Addr × Obj)} (h : Nd ((lO, o) :: (flat6 P es ++ pool))) :
    (∀ e ∈ es, e.a ∉ es.map (·.ua) ∧ e.dx ∉ es.map (·.ua) ∧ e.rl ∉ es.map (·.ua)) ∧ lO ∉ es.map (·.ua) ∧ ∀ p ∈ pool, p.1 ∉ es.map (·.ua) := by
  have key : ∀ e ∈ es, ∀ p ∈ (lO, o) :: (flat6 P es ++ pool), p.1 = e.ua → p = (e.ua, W.listOf e.vs.toArray e.n) := by
    intro e he p hp q
    have hm : (e.ua, W.listOf e.vs.toArray e.n) ∈ (lO, o) :: (flat6 P es ++ pool) := .tail _ (List.mem_append_left _ (List.mem_flatMap.mpr ⟨e, he, .head _⟩))
    have inj : ∀ {l : List (Addr × Obj)}, Nd l → ∀ p ∈ l, ∀ r ∈ l, p.1 = r.1 → p = r := by
      intro l
      induction l with
      | nil => intro _ p hp; cases hp
      | cons a l ih =>
        intro hn p hp r hr e
        obtain ⟨h1, h2⟩ := List.nodup_cons.mp hn
        rcases List.mem_cons.mp hp with hp1 | hp1
        · rcases List.mem_cons.mp hr with hr1 | hr1
          · rw [hp1, hr1]
          · exact absurd (by rw [hp1] at e; rw [e]; exact List.mem_map_of_mem (f := Prod.fst) hr1) h1
        · rcases List.mem_cons.mp hr with hr1 | hr1
          · exact absurd (by rw [hr1] at e; rw [← e]; exact List.mem_map_of_mem (f := Prod.fst) hp1) h1
          · exact ih h2 p hp1 r hr1 e
    exact inj h p hp _ hm q
  have inf : ∀ e ∈ es, ∀ p ∈ e.objs P, p ∈ (lO, o) :: (flat6 P es ++ pool) := fun e he p hp => .tail _ (List.mem_append_left _ (List.mem_flatMap.mpr ⟨e, he, hp⟩))
  refine ⟨fun e he => ⟨fun hm => ?_, fun hm => ?_, fun hm => ?_⟩, fun hm => ?_, fun p hp hm => ?_⟩
  · obtain ⟨e2, he2, q⟩ := List.mem_map.mp hm
    have := congrArg (fun p : Addr × Obj => p.2.cls) (key e2 he2 _ (inf e he _ (.tail _ (.tail _ (.head _)))) q.symm)
    simp [W.listOf, instObj] at this
  · obtain ⟨e2, he2, q⟩ := List.mem_map.mp hm
    have := congrArg (fun p : Addr × Obj => p.2.cls) (key e2 he2 _ (inf e he _ (.tail _ (.tail _ (.tail _ (.head _))))) q.symm)
    simp [W.listOf, dictOf] at this
  · obtain ⟨e2, he2, q⟩ := List.mem_map.mp hm
    obtain ⟨pre, post, hes⟩ := List.append_of_mem he
    subst hes
    obtain ⟨h5, hoff⟩ := nd_open h
    simp only [List.nodup_cons, List.mem_cons, List.not_mem_nil, or_false, not_or, not_false_eq_true, List.nodup_nil, and_true] at h5
    rcases List.mem_append.mp he2 with h2 | h2
    · exact hoff (e2.ua, W.listOf e2.vs.toArray e2.n) (List.mem_append_left _ (List.mem_append_left _ (List.mem_flatMap.mpr ⟨e2, h2, .head _⟩))) (q ▸ .tail _ (.tail _ (.head _)))
    · rcases List.mem_cons.mp h2 with rfl | h2
      · exact h5.2.1.1 q
      · exact hoff (e2.ua, W.listOf e2.vs.toArray e2.n) (List.mem_append_left _ (List.mem_append_right _ (List.mem_flatMap.mpr ⟨e2, h2, .head _⟩))) (q ▸ .tail _ (.tail _ (.head _)))
  · obtain ⟨e2, he2, q⟩ := List.mem_map.mp hm
    have hm2 : lO ∈ (flat6 P es ++ pool).map Prod.fst := q ▸ List.mem_map_of_mem (f := Prod.fst) (a := (e2.ua, W.listOf e2.vs.toArray e2.n)) (List.mem_append_left _ (List.mem_flatMap.mpr ⟨e2, he2, .head _⟩))
    exact (List.nodup_cons.mp h).1 hm2
  · obtain ⟨e2, he2, q⟩ := List.mem_map.mp hm
    have hn := (List.nodup_cons.mp h).2
    rw [List.map_append] at hn
    exact (List.nodup_append.mp hn).2.2 _ (List.mem_map_of_mem (f := Prod.fst) (a := (e2.ua, W.listOf e2.vs.toArray e2.n)) (List.mem_flatMap.mpr ⟨e2, he2, .head _⟩)) _ (List.mem_map_of_mem (f := Prod.fst) hp) q
theorem fr_mut {h₀ h h' : Heap} {L : Addr} {m : Str → Option Value} {es : List E6} (F : Fr h₀ L h m) (hu : ∀ e ∈ es, e.ua ≠ L ∧ h₀.get? e.ua = none) (k : ∀ b o, b ∉ es.map (·.ua) → h.get? b = some o → h'.get? b = some o) : Fr h₀ L h' m := by
  refine ⟨F.ns.at' fun o e => k _ _ (fun hm => ?_) e, fun b o e => k b o (fun hm => ?_) (F.keep b o e), F.above⟩
  · obtain ⟨x, hx, q⟩ := List.mem_map.mp hm
    exact (hu x hx).1 q
  · obtain ⟨x, hx, rfl⟩ := List.mem_map.mp hm
    rw [(hu x hx).2] at e; cases e
theorem listOf_inj {a b : List Value} {n m : Nat} (h : W.listOf a.toArray n = W.listOf b.toArray m) : a = b := by
  simp only [W.listOf, Obj.mk.injEq, Data.seq.injEq] at h
  have := h.2.2.1.1
  simpa using this
/-- one turn of `[_law_whole(one) for one in ones]` -/
theorem whole_en {prog : Program} {w : World} {mean : ExcName → Option Value} {mg mb : Str → Option Value} {A : Around} {s : Shared} {h₀ : Heap} {L : Addr} {m : Str → Option Value} {es : List E6} {e : E6} {pool : List (Addr × Obj)} {i : Nat} {ys : List Value} {Q E : Value → Shared → Prop}
    (C : Cx (hd6.heap_39 w.params) hd6.view_39 (looseW hd6.view_39 []) mean mg mb A h₀ 18) (F : Fr h₀ L s.heap m) (he : es[i]? = some e) (hJ : WhW es i ys s.heap)
    (hu : h₀.get? e.ua = none) (hr : s.heap.get? e.rl = some (W.listOf e.rs.toArray e.m) ∧ h₀.get? e.rl = none) (ha : s.heap.get? e.a = some (instObj 59 e.dx) ∧ h₀.get? e.a = none) (hd : s.heap.get? e.dx = some (entD w.params e.t1 e.t2 e.t3 e.t4 e.ua e.rl e.de e.ra) ∧ h₀.get? e.dx = none)
    (ap : e.a ∉ es.map (·.ua) ∧ e.dx ∉ es.map (·.ua) ∧ e.rl ∉ es.map (·.ua)) (hp : ∀ p ∈ pool, s.heap.get? p.1 = some p.2) (ok : E6Ok w.params pool 63 e)
    (hQ : ∀ h' tk r, (∀ b o, b ∉ es.map (·.ua) → s.heap.get? b = some o → h'.get? b = some o) → WhW es (i + 1) (ys ++ [r]) h' → Q r { s with heap := h', toks := tk }) : wpAny (model prog w) A (call (.ref 77) [.ref e.a]) Q E s := by
  have hm := List.mem_of_getElem? he
  have hmu : e.ua ∈ es.map (·.ua) := List.mem_map.mpr ⟨e, hm, rfl⟩
  obtain ⟨n, hn⟩ := hJ.1 e hm
  have agl : ∀ x ∈ AG, x.length ≤ 100 := by decide +kernel
  have rul : ∀ x ∈ RU, x.length ≤ 100 := by decide +kernel
  have hde : handedIn e.de = true := by rcases ok.de with ⟨h, _⟩ | ⟨_, h, _⟩ | ⟨_, h, _⟩ <;> rw [h] <;> rfl
  have hra : handedIn e.ra = true := by rcases ok.ra with ⟨h, _⟩ | ⟨_, h, _⟩ | ⟨_, h, _⟩ <;> rw [h] <;> rfl
  refine whole_spec C F.keep (Nat.le_trans F.above (Nat.le_of_lt F.ns.lt)) hu ⟨ha.1, hd.1, hn, hr.1⟩ ok.ss ok.rs hde hra ok.de (ok.ra.at hp) (Nat.le_trans ok.vl (by decide)) (Nat.le_trans ok.rl (by decide)) (fun x hx => agl x (ok.ok.ag x hx)) (fun x hx => rul x (ok.ok.ru x hx)) (fun q => ap.1 (q ▸ hmu)) (fun q => ap.2.1 (q ▸ hmu)) (fun q => ap.2.2 (q ▸ hmu)) ha.2 hd.2 hr.2 fun h' tk t n' hk hua => ?_
  refine hQ _ _ _ (fun b o hb e1 => hk b o (fun q => hb (q ▸ hmu)) e1) ⟨fun e2 he2 => ?_, ?_⟩
  · obtain ⟨n2, hn2⟩ := hJ.1 e2 he2
    by_cases q : e2.ua = e.ua
    · rw [q] at hn2 ⊢
      rw [hn] at hn2
      exact ⟨n', by rw [← listOf_inj (Option.some.inj hn2)]; exact hua⟩
    · exact ⟨n2, hk _ _ q hn2⟩
  · rw [List.take_add_one, he, List.map_append]
    exact strs_append hJ.2 (.cons _ _ .nil)
theorem refs6_at {es : List E6} {i : Nat} {v : Value} (h : (refs6 es)[i]? = some v) : ∃ e, es[i]? = some e ∧ v = .ref e.a := by
  rw [refs6, List.getElem?_map] at h
  cases e : es[i]? with
  | none => rw [e] at h; cases h
  | some x => rw [e] at h; exact ⟨x, rfl, (Option.some.inj h).symm⟩
/-- the entries with the epochs that their lists have now -/
theorem new_epochs {es : List E6} {i : Nat} {ys : List Value} {h : Heap} (hJ : WhW es i ys h) : ∃ es2 : List E6, refs6 es2 = refs6 es ∧ es2.map (·.ua) = es.map (·.ua) ∧ es2.map wholeT = es.map wholeT ∧ es2.length = es.length ∧ ∀ e2 ∈ es2, ∃ e ∈ es, ∃ n, e2 = { e with n := n } ∧ h.get? e.ua = some (W.listOf e.vs.toArray n) := by
  have h1 := hJ.1
  clear hJ
  induction es with
  | nil => exact ⟨[], rfl, rfl, rfl, rfl, fun _ h => nomatch h⟩
  | cons e r ih =>
    obtain ⟨es2, a1, a2, a3, a4, a5⟩ := ih fun x hx => h1 x (.tail _ hx)
    obtain ⟨n, hn⟩ := h1 e (.head _)
    refine ⟨{ e with n := n } :: es2, by simp only [refs6, List.map_cons] at a1 ⊢; rw [a1], by simp only [List.map_cons, a2], by simp only [List.map_cons, a3, wholeT], by simp only [List.length_cons, a4], fun e2 he2 => ?_⟩
    rcases List.mem_cons.mp he2 with rfl | he2
    · exact ⟨e, .head _, n, rfl, hn⟩
    · obtain ⟨x, hx, m, e3, e4⟩ := a5 e2 he2
      exact ⟨x, .tail _ hx, m, e3, e4⟩
end Mine
namespace Mine
open PySem.Builtin

theorem DlOk.merge {v1 v2 : Value} {d1 d2 : List Str} (h1 : DlOk v1 d1) (h2 : DlOk v2 d2) : DlOk (if v2 == .none then v1 else v2) (mOne d1 d2) := by
  rcases h2 with ⟨rfl, rfl⟩ | ⟨t, rfl, rfl⟩ | ⟨t, rfl, rfl⟩
  · exact h1
  · exact .inr (.inl ⟨t, rfl, rfl⟩)
  · exact .inr (.inr ⟨t, rfl, rfl⟩)
theorem RaIn.merge {P : Params} {pool : List (Addr × Obj)} {v1 v2 : Value} {q1 q2 : List Str} (h1 : RaIn P pool v1 q1) (h2 : RaIn P pool v2 q2) : RaIn P pool (if v2 == .none then v1 else v2) (mOne q1 q2) := by
  rcases h2 with ⟨rfl, rfl⟩ | ⟨t, rfl, h, rfl⟩ | ⟨t, rfl, h, rfl⟩
  · exact h1
  · exact .inr (.inl ⟨t, rfl, h, rfl⟩)
  · exact .inr (.inr ⟨t, rfl, h, rfl⟩)
theorem DlOk.handed {v : Value} {dl : List Str} (h : DlOk v dl) : handedIn v = true := by
  rcases h with ⟨h, _⟩ | ⟨_, h, _⟩ | ⟨_, h, _⟩ <;> rw [h] <;> rfl
theorem DlOk.plain {v : Value} {dl : List Str} (h : DlOk v dl) : plainIs v .none = true := by
  rcases h with ⟨h, _⟩ | ⟨_, h, _⟩ | ⟨_, h, _⟩ <;> rw [h] <;> rfl
theorem RaIn.handed {P : Params} {pool : List (Addr × Obj)} {v : Value} {dl : List Str} (h : RaIn P pool v dl) : handedIn v = true := by
  rcases h with ⟨h, _⟩ | ⟨_, h, _⟩ | ⟨_, h, _⟩ <;> rw [h] <;> rfl
theorem RaIn.plain {P : Params} {pool : List (Addr × Obj)} {v : Value} {dl : List Str} (h : RaIn P pool v dl) : plainIs v .none = true := by
  rcases h with ⟨h, _⟩ | ⟨_, h, _⟩ | ⟨_, h, _⟩ <;> rw [h] <;> rfl
theorem ag100 {ss dl ql rr : List Str} (h : RecOk ss dl ql rr) : ∀ x ∈ ss, x.length ≤ 100 := by
  have : ∀ x ∈ AG, x.length ≤ 100 := by decide +kernel
  exact fun x hx => this x (h.ag x hx)
theorem agS100 {ss dl ql rr : List Str} (h : RecOk ss dl ql rr) : ∀ x ∈ ss ++ [seen], x.length ≤ 100 := fun x hx => by
  rcases List.mem_append.mp hx with hx | hx
  · exact ag100 h x hx
  · rw [List.mem_singleton.mp hx]; decide +kernel
theorem ru100 {ss dl ql rr : List Str} (h : RecOk ss dl ql rr) : ∀ x ∈ rr, x.length ≤ 100 := by
  have : ∀ x ∈ RU, x.length ≤ 100 := by decide +kernel
  exact fun x hx => this x (h.ru x hx)
theorem dl120 {ss dl ql rr : List Str} (h : RecOk ss dl ql rr) : ∀ x ∈ dl, x.length ≤ 120 := by
  have : ∀ x ∈ CD, x.length ≤ 120 := by decide +kernel
  exact fun x hx => this x (h.de x hx)
theorem ql120 {ss dl ql rr : List Str} (h : RecOk ss dl ql rr) : ∀ x ∈ ql, x.length ≤ 120 := by
  have : ∀ x ∈ RR, x.length ≤ 120 := by decide +kernel
  exact fun x hx => this x (h.ra x hx)
theorem lines120 {ss dl ql rr : List Str} (h : RecOk ss dl ql rr) : ∀ y ∈ linesOf (ss ++ [seen]) dl ql rr, y.length ≤ 120 := linesOf_le (agS100 h) (dl120 h) (ql120 h) (ru100 h)
theorem bare120 {ss dl ql rr : List Str} (h : RecOk ss dl ql rr) : ∀ y ∈ linesOf ss dl ql rr, y.length ≤ 120 := linesOf_le (ag100 h) (dl120 h) (ql120 h) (ru100 h)
theorem lines_count {ss dl ql rr : List Str} (h : RecOk ss dl ql rr) (h1 : ss.length ≤ 200) (h2 : rr.length ≤ 200) : (linesOf (ss ++ [seen]) dl ql rr).length ≤ 410 ∧ (linesOf ss dl ql rr).length ≤ 410 := by
  have h3 := h.d1
  have h4 := h.q1
  have h5 : (rulesL rr).length ≤ 201 := by
    unfold rulesL
    split
    · exact (by decide)
    · omega
  rw [linesOf_eq, linesOf_eq]
  simp only [List.length_append, List.length_map, List.length_cons, List.length_nil]
  omega
theorem lines_ne (ss dl ql rr : List Str) : linesOf ss dl ql rr ≠ [] := fun e => by
  rw [linesOf_eq] at e
  exact rulesL_ne rr (List.append_eq_nil_iff.mp e).2
theorem join_short {l : List Str} (h : ∀ y ∈ l, y.length ≤ 120) (hn : l.length ≤ 410) : (Txt.join nl l).length ≤ 200000 := by
  have e : Txt.join nl l = Str.join nl l := StrLaws.glued_eq_join nl l
  have h1 : (l.map (·.length)).sum ≤ (l.map (·.length)).length * 120 := sum_le_mul fun x hx => by
    obtain ⟨y, hy, rfl⟩ := List.mem_map.mp hx
    exact h y hy
  have h2 := StrLaws.join_length_le nl l
  have e2 : nl.length = 1 := by decide
  rw [List.length_map] at h1
  rw [e2] at h2
  rw [e]
  omega
theorem E6Ok.sl {P : Params} {pool : List (Addr × Obj)} {i : Nat} {e : E6} (h : E6Ok P pool i e) : e.ss.length ≤ i + 1 ∧ e.rr.length ≤ i := ⟨h.ss.length ▸ h.vl, h.rs.length ▸ h.rl⟩
section
variable {prog : Program} {w : World} {mean : ExcName → Option Value} {mg mb : Str → Option Value} {A : Around} {s : Shared} {Q E : Value → Shared → Prop} {e1 e2 : E6} {pool : List (Addr × Obj)}
theorem whole_split {P : Params} {e : E6} (o : E6Ok P pool 63 e) : Txt.split (wholeT e) nl = linesOf (e.ss ++ [seen]) e.dl e.ql e.rr := split_join (lines_ne _ _ _ _) (line_free o.ok)
theorem merged_en {tW1 tW2 : Tok} (C : Cx (hd6.heap_39 w.params) hd6.view_39 (looseW hd6.view_39 []) mean mg mb A s.heap 10) (o1 : E6Ok w.params pool 63 e1) (o2 : E6Ok w.params pool 63 e2)
    (hQ : ∀ h' tk D vs c, s.heap.StaysIn h' → s.heap.get? D = none → h'.get? D = some (W.listOf (List.toArray vs) c) → StrsAre vs (linesOf (mAg e1.ss e2.ss ++ [seen]) (mOne e1.dl e2.dl) (mOne e1.ql e2.ql) (e1.rr ++ e2.rr)) → Q (.ref D) { s with heap := h', toks := tk }) :
    wpAny (model prog w) A (call (.ref 82) [.str (wholeT e1) tW1, .str (wholeT e2) tW2]) Q E s := by
  have k1 := o1.sl
  have k2 := o2.sl
  have c1 := (lines_count o1.ok (by omega) (by omega)).1
  have c2 := (lines_count o2.ok (by omega) (by omega)).1
  have s1 := whole_split o1
  have s2 := whole_split o2
  refine merged_spec C (join_short (lines120 o1.ok) c1) (join_short (lines120 o2.ok) c2) (by rw [s1]; omega) (by rw [s2]; omega) (by rw [s1]; exact lines120 o1.ok) (by rw [s2]; exact lines120 o2.ok) fun h' tk D vs c st f g hv => ?_
  rw [s1, s2, merged_lines o1.ok o2.ok] at hv
  exact hQ h' tk D vs c st f g hv
theorem merge6 (C : Cx (hd6.heap_39 w.params) hd6.view_39 (looseW hd6.view_39 []) mean mg mb A s.heap 10) (E1 : ∀ p ∈ e1.objs w.params, s.heap.get? p.1 = some p.2) (E2 : ∀ p ∈ e2.objs w.params, s.heap.get? p.1 = some p.2) (o1 : E6Ok w.params pool 63 e1) (o2 : E6Ok w.params pool 63 e2)
    (hQ : ∀ h' tk (e : E6), s.heap.StaysIn h' → (∀ p ∈ e.objs w.params, s.heap.get? p.1 = none ∧ h'.get? p.1 = some p.2) → e.ua ≠ e.rl → E6Ok w.params pool 150 e → e.ss = mAg e1.ss e2.ss → e.dl = mOne e1.dl e2.dl → e.ql = mOne e1.ql e2.ql → e.rr = e1.rr ++ e2.rr → Q (.ref e.a) { s with heap := h', toks := tk }) :
    wpAny (model prog w) A (call (.ref 70) [.ref e1.a, .ref e2.a]) Q E s := by
  have k1 := o1.sl
  have k2 := o2.sl
  have l1 := o1.rl
  have l2 := o2.rl
  refine merge_spec6 C ⟨E1 _ (.tail _ (.tail _ (.head _))), E1 _ (.tail _ (.tail _ (.tail _ (.head _)))), E1 _ (.head _), E1 _ (.tail _ (.head _))⟩ ⟨E2 _ (.tail _ (.tail _ (.head _))), E2 _ (.tail _ (.tail _ (.tail _ (.head _)))), E2 _ (.head _), E2 _ (.tail _ (.head _))⟩ o1.ss o2.ss (by omega) (by omega) (by omega) (by omega) o1.de.handed o2.de.handed o1.ra.handed o2.ra.handed o2.de.plain o2.ra.plain
    fun h' tk a dx ua rl vs de ra t1 t2 t3 t4 n m hde hra st f1 f2 f3 f4 hne hE hvs => ?_
  refine hQ h' tk ⟨a, dx, ua, rl, vs, e1.rs ++ e2.rs, mAg e1.ss e2.ss, e1.rr ++ e2.rr, mOne e1.dl e2.dl, mOne e1.ql e2.ql, de, ra, t1, t2, t3, t4, n, m⟩ st (fun p hp => ?_) hne ⟨hvs, strs_append o1.rs o2.rs, by rw [hde]; exact o1.de.merge o2.de, by rw [hra]; exact o1.ra.merge o2.ra, ?_, ?_, o1.ok.merge o2.ok⟩ rfl rfl rfl rfl
  · simp only [E6.objs, List.mem_cons, List.not_mem_nil, or_false] at hp
    rcases hp with rfl | rfl | rfl | rfl
    · exact ⟨f3, hE.uas⟩
    · exact ⟨f4, hE.rls⟩
    · exact ⟨f1, hE.at_⟩
    · exact ⟨f2, hE.dict⟩
  · show vs.length ≤ 151
    rw [hvs.length]
    exact Nat.le_trans (List.length_filter_le _ _) (by omega)
  · show (e1.rs ++ e2.rs).length ≤ 150
    rw [List.length_append]; omega
theorem str6 {e : E6} (C : Cx (hd6.heap_39 w.params) hd6.view_39 (looseW hd6.view_39 []) mean mg mb A s.heap 14) (E1 : ∀ p ∈ e.objs w.params, s.heap.get? p.1 = some p.2) (o1 : E6Ok w.params pool 150 e) (hp : ∀ p ∈ pool, s.heap.get? p.1 = some p.2)
    (hQ : ∀ h' tk t, s.heap.StaysIn h' → Q (.str (textOf e.ss e.dl e.ql e.rr) t) { s with heap := h', toks := tk }) : wpAny (model prog w) A (call (.type "str") [.ref e.a]) Q E s :=
  str_spec C ⟨E1 _ (.tail _ (.tail _ (.head _))), E1 _ (.tail _ (.tail _ (.tail _ (.head _)))), E1 _ (.head _), E1 _ (.tail _ (.head _))⟩ o1.ss o1.rs o1.de.handed o1.ra.handed o1.de (o1.ra.at hp) (Nat.le_trans o1.vl (by decide)) (Nat.le_trans o1.rl (by decide)) (ag100 o1.ok) (ru100 o1.ok) hQ
theorem str6s {e : E6} {vs : List Value} {n : Nat} (C : Cx (hd6.heap_39 w.params) hd6.view_39 (looseW hd6.view_39 []) mean mg mb A s.heap 14) (E1 : ∀ p ∈ [(e.rl, W.listOf e.rs.toArray e.m), (e.a, instObj 59 e.dx), (e.dx, entD w.params e.t1 e.t2 e.t3 e.t4 e.ua e.rl e.de e.ra)], s.heap.get? p.1 = some p.2) (hu : s.heap.get? e.ua = some (W.listOf vs.toArray n)) (hv : StrsAre vs (e.ss ++ [seen])) (o1 : E6Ok w.params pool 150 e) (hp : ∀ p ∈ pool, s.heap.get? p.1 = some p.2)
    (hQ : ∀ h' tk t, s.heap.StaysIn h' → Q (.str (wholeT e) t) { s with heap := h', toks := tk }) : wpAny (model prog w) A (call (.type "str") [.ref e.a]) Q E s := by
  have k1 := o1.sl
  refine str_spec C ⟨E1 _ (.tail _ (.head _)), E1 _ (.tail _ (.tail _ (.head _))), hu, E1 _ (.head _)⟩ hv o1.rs o1.de.handed o1.ra.handed o1.de (o1.ra.at hp) (by rw [hv.length, List.length_append, List.length_cons, List.length_nil]; omega) (Nat.le_trans o1.rl (by decide)) (agS100 o1.ok) (ru100 o1.ok) fun h' tk t st => ?_
  rw [show textOf (e.ss ++ [seen]) e.dl e.ql e.rr = wholeT e from if_neg (by simp)]
  exact hQ h' tk t st
end
theorem strs_filt {vs : List Value} {ss : List Str} (h : StrsAre vs ss) (p : Value → Bool) (q : Str → Bool) (e : ∀ y t, p (.str y t) = q y) : StrsAre (vs.filter p) (ss.filter q) := by
  induction h with
  | nil => exact .nil
  | cons x t h ih =>
    rw [List.filter_cons, List.filter_cons, e]
    cases q x with
    | true => exact .cons _ _ ih
    | false => exact ih
theorem seenLine : Str.ofString "User-agent: seen" = uaLine seen := by decide +kernel
theorem bne_line (x y : Str) : (x.cps.toList != y.cps.toList) = !decide (x = y) := by
  by_cases h : x = y
  · subst h; simp
  · rw [decide_eq_false h]
    have : x.cps.toList ≠ y.cps.toList := fun e => h (str_ext e)
    exact bne_iff_ne.mpr this
/-- an entry's own objects apart from its lists -/
theorem ua_apart {P : Params} {e : E6} {h : Heap} (k : ∀ p ∈ e.objs P, h.get? p.1 = some p.2) : e.a ≠ e.ua ∧ e.dx ≠ e.ua ∧ e.a ≠ e.rl ∧ e.dx ≠ e.rl := by
  have h1 := k _ (.head _)
  have h2 := k _ (.tail _ (.head _))
  have h3 := k _ (.tail _ (.tail _ (.head _)))
  have h4 := k _ (.tail _ (.tail _ (.tail _ (.head _))))
  dsimp only at h1 h2 h3 h4
  have go : ∀ {x y : Addr} {o o' : Obj}, h.get? x = some o → h.get? y = some o' → o.cls ≠ o'.cls → x ≠ y := by
    rintro x y o o' a b c rfl
    rw [a] at b
    exact c (congrArg Obj.cls (Option.some.inj b))
  exact ⟨go h3 h1 (by simp [W.listOf, instObj]), go h4 h1 (by simp [W.listOf, dictOf]), go h3 h2 (by simp [W.listOf, instObj]), go h4 h2 (by simp [W.listOf, dictOf])⟩
theorem str_bne_self (x : Str) : (x != x) = false := by simp [bne]
theorem mem_cat {α : Type} {a b c x : α} {r : List α} (h : x ∈ [a, b, c]) : x ∈ a :: b :: c :: r := List.mem_append_left r h
theorem eq_strs_same {prog : Program} {w : World} {A : Around} {E : Value → Shared → Prop} {s : Shared} {D l : Addr} {vs ws : List Value} {ss : List Str} {Q : Value → Shared → Prop} (hu : A.units < cLine) (hl : s.heap.IsList D vs.toArray) (hb : s.heap.IsList l ws.toArray) (h1 : StrsAre vs ss) (h2 : StrsAre ws ss)
    (h : Q (.bool true) s) : wpAny (model prog w) A (compareOp .Eq (.ref D) (.ref l)) Q E s := by
  obtain ⟨hn, he⟩ := strs_eqAt h1 h2
  refine SeqAt.eq_listAt (e := fun _ => true) hl hb (by simpa using hn) hu (fun j j1 j2 => ?_) (by rw [List.all_eq_true.mpr fun _ _ => rfl]; exact h)
  rw [List.size_toArray] at j1 j2
  exact he j j1 j2 _ _
theorem ne_same (x : Str) : (x.cps.toList != x.cps.toList) = false := by simp
end Mine
namespace Mine
open PySem.Builtin
local macro_rules | `(tactic| walk_at "my steps") => `(tactic| repeat' (first | (k_unfold; (try dsimp only)) | ((fail_if_success (with_reducible show wpAny _ _ (pyIter _) _ _ _)); (fail_if_success (with_reducible show Exists _)); (fail_if_success (with_reducible show wpAny _ _ (exec (Stmt.For _ _ _ _ _) _) _ _ _)); (fail_if_success (with_reducible show wpAny _ _ (call (Value.ref _) _) _ _ _)); (fail_if_success (with_reducible show wpAny _ _ (PySem.eval (PySem.Expr.ListComp _ _ _ _) _) _ _ _)); (fail_if_success (with_reducible show wpAny _ _ (exec (Stmt.Assign _ (PySem.Expr.ListComp _ _ _ _) _) _) _ _ _)); (first | walk1 | (dsimp only; walk1)); (try dsimp only))))
local macro_rules | `(tactic| walk_at "my few") => `(tactic| repeat' (first | (k_unfold; (try dsimp only)) | ((fail_if_success (with_reducible show wpAny _ _ (pyIter _) _ _ _)); (fail_if_success (with_reducible show Exists _)); (fail_if_success (with_reducible show wpAny _ _ (subscriptTail _ _ _ _) _ _ _)); (fail_if_success (with_reducible show wpAny _ _ (PySem.eval (PySem.Expr.ListComp _ _ _ _) _) _ _ _)); (fail_if_success (with_reducible show wpAny _ _ (exec (Stmt.Assign _ (PySem.Expr.ListComp _ _ _ _) _) _) _ _ _)); (fail_if_success (with_reducible show wpAny _ _ (setAttr _ _ _) _ _ _)); (fail_if_success (with_reducible show wpAny _ _ (getAttr _ _ _) _ _ _)); (fail_if_success (with_reducible show wpAny _ _ (exec (Stmt.For _ _ _ _ _) _) _ _ _)); (fail_if_success (with_reducible show wpAny _ _ (call _ _) _ _ _)); (first | walk1 | (dsimp only; walk1)); (try dsimp only))))
local macro_rules | `(tactic| walk_at "my own") => `(tactic| repeat' (first | (k_unfold; (try dsimp only)) | ((fail_if_success (with_reducible show wpAny _ _ (pyIter _) _ _ _)); (fail_if_success (with_reducible show Exists _)); (fail_if_success (with_reducible show wpAny _ _ (newList _) _ _ _)); (fail_if_success (with_reducible show wpAny _ _ (subscriptTail _ _ _ _) _ _ _)); (fail_if_success (with_reducible show wpAny _ _ (PySem.eval (PySem.Expr.ListComp _ _ _ _) _) _ _ _)); (fail_if_success (with_reducible show wpAny _ _ (exec (Stmt.Assign _ (PySem.Expr.ListComp _ _ _ _) _) _) _ _ _)); (fail_if_success (with_reducible show wpAny _ _ (setAttr _ _ _) _ _ _)); (fail_if_success (with_reducible show wpAny _ _ (getAttr _ _ _) _ _ _)); (fail_if_success (with_reducible show wpAny _ _ (exec (Stmt.For _ _ _ _ _) _) _ _ _)); (fail_if_success (with_reducible show wpAny _ _ (call _ _) _ _ _)); (first | walk1 | (dsimp only; walk1)); (try dsimp only))))
end Mine
open Mine PySem.Builtin
local macro_rules | `(tactic| walk_at "my steps") => `(tactic| repeat' (first | (k_unfold; (try dsimp only)) | ((fail_if_success (with_reducible show wpAny _ _ (pyIter _) _ _ _)); (fail_if_success (with_reducible show Exists _)); (fail_if_success (with_reducible show wpAny _ _ (exec (Stmt.For _ _ _ _ _) _) _ _ _)); (fail_if_success (with_reducible show wpAny _ _ (call (Value.ref _) _) _ _ _)); (fail_if_success (with_reducible show wpAny _ _ (PySem.eval (PySem.Expr.ListComp _ _ _ _) _) _ _ _)); (fail_if_success (with_reducible show wpAny _ _ (exec (Stmt.Assign _ (PySem.Expr.ListComp _ _ _ _) _) _) _ _ _)); (first | walk1 | (dsimp only; walk1)); (try dsimp only))))
local macro_rules | `(tactic| walk_at "my few") => `(tactic| repeat' (first | (k_unfold; (try dsimp only)) | ((fail_if_success (with_reducible show wpAny _ _ (pyIter _) _ _ _)); (fail_if_success (with_reducible show Exists _)); (fail_if_success (with_reducible show wpAny _ _ (subscriptTail _ _ _ _) _ _ _)); (fail_if_success (with_reducible show wpAny _ _ (PySem.eval (PySem.Expr.ListComp _ _ _ _) _) _ _ _)); (fail_if_success (with_reducible show wpAny _ _ (exec (Stmt.Assign _ (PySem.Expr.ListComp _ _ _ _) _) _) _ _ _)); (fail_if_success (with_reducible show wpAny _ _ (setAttr _ _ _) _ _ _)); (fail_if_success (with_reducible show wpAny _ _ (getAttr _ _ _) _ _ _)); (fail_if_success (with_reducible show wpAny _ _ (exec (Stmt.For _ _ _ _ _) _) _ _ _)); (fail_if_success (with_reducible show wpAny _ _ (call _ _) _ _ _)); (first | walk1 | (dsimp only; walk1)); (try dsimp only))))
local macro_rules | `(tactic| walk_at "my own") => `(tactic| repeat' (first | (k_unfold; (try dsimp only)) | ((fail_if_success (with_reducible show wpAny _ _ (pyIter _) _ _ _)); (fail_if_success (with_reducible show Exists _)); (fail_if_success (with_reducible show wpAny _ _ (newList _) _ _ _)); (fail_if_success (with_reducible show wpAny _ _ (subscriptTail _ _ _ _) _ _ _)); (fail_if_success (with_reducible show wpAny _ _ (PySem.eval (PySem.Expr.ListComp _ _ _ _) _) _ _ _)); (fail_if_success (with_reducible show wpAny _ _ (exec (Stmt.Assign _ (PySem.Expr.ListComp _ _ _ _) _) _) _ _ _)); (fail_if_success (with_reducible show wpAny _ _ (setAttr _ _ _) _ _ _)); (fail_if_success (with_reducible show wpAny _ _ (getAttr _ _ _) _ _ _)); (fail_if_success (with_reducible show wpAny _ _ (exec (Stmt.For _ _ _ _ _) _) _ _ _)); (fail_if_success (with_reducible show wpAny _ _ (call _ _) _ _ _)); (first | walk1 | (dsimp only; walk1)); (try dsimp only))))
set_option maxRecDepth 100000 in
set_option maxHeartbeats 8000000 in
theorem PySem.Challenge.cw_kn0088_06_holds : PySem.Challenge.rw_kn0088_06.Holds := by
  refine hd6 ?_
  k_go0
  rename Shared => s1
  rename World => w
  rename List Int => ns
  rename List Value => vsS
  rename Frag.In _ _ => KX
  rename Top _ _ _ _ _ _ => hT
  rename IntsAre _ _ => hI
  rename Heap.IsList _ _ _ => hL
  rename ¬ _ => hlen63
  rename_i lS _ _ _ _ _ _ _ _ _ _ _
  have C0 : ∀ env, Cx (hd6.heap_39 w.params) hd6.view_39 (looseW hd6.view_39 []) _ _ _ (callerA.deeper env) _ 30 := fun env => ⟨rfl, by show callerA.depth + 1 + 30 < _; decide, by show callerA.units + 3 + 8 * 30 < _; decide, KX, hT⟩
  walk_at "my few"
  rename Fr _ _ _ _ => hF1
  rename News _ _ _ _ => hN1
  rename_i lRu hr1 lr1 hr2 lO hr3 lo1 hr4
  replace hF1 := fr_as (m' := fun y => if y = Str.ofString "ones" then some (.ref lO) else if y = Str.ofString "rules" then some (.ref lRu) else if y = Str.ofString "script" then some (.ref lS) else none) hF1 (by
    funext y
    show (if y = Str.ofString "ones" then some (Value.ref lO) else if y = Str.ofString "rules" then some (Value.ref lRu) else List.lookup y [(Str.ofString "script", Value.ref lS)]) = _
    rw [lookup_cons_if]; rfl)
  obtain ⟨vsR, hvsR, hN2⟩ : ∃ vsR : List Value, StrsAre vsR RU ∧ News s1.heap s1.heap.objs.size hr4 [(lO, W.listOf #[] 0), (lRu, W.listOf vsR.toArray 0)] := ⟨_, .cons _ _ (.cons _ _ (.cons _ _ (.cons _ _ (.cons _ _ (.cons _ _ .nil))))), hN1⟩
  clear hN1
  have hn63 : ns.length ≤ 63 := by omega
  have hLS : s1.heap.objs.size ≠ lS := by obtain ⟨o, ho, _⟩ := hL; exact (Nat.ne_of_lt (Heap.lt_size ho)).symm
  refine' For_invV s1.heap ?q1 ?q2 ?_ ?q3 ?q4
  case q1 => exact rfl
  case q2 => exact rfl
  case q3 => intro _; rfl
  case q4 => passes_own
  walk_at "my few"
  refine range_one hF1 hN2 fun h2 tk2 r2 ta tb tc hR2 hF2 hN2' => ?_
  (try clear hF1); (try clear hN2)
  try dsimp only
  have lt0 : @LT.lt Nat _ lRu lO := lo1
  refine iter_rangeK2 (n := 3) [Str.ofString "one"] (fun i news => ∃ es c, news = (lO, W.listOf (List.toArray (refs6 es)) c) :: (flat6 w.params es ++ [(lRu, W.listOf vsR.toArray 0)]) ∧ es.length = i ∧ Nd news ∧ ∀ e ∈ es, E6Ok w.params [(lRu, W.listOf vsR.toArray 0)] 0 e) rfl hR2 (range_small (by decide) (by decide) (by decide) (by decide)) (by rw [rangeSize_nat]; rfl) hF2 hN2' ⟨[], 0, rfl, rfl, ?_, fun _ h => nomatch h⟩ ?_ ?_
  · show @List.Nodup Nat [lO, lRu]
    simp only [List.nodup_cons, List.mem_cons, List.not_mem_nil, or_false, not_false_eq_true, List.nodup_nil, and_true]
    omega
  · rintro i ti u news₁ h3 tk3 I own hi ⟨es, c, rfl, hel, hnd, hok⟩ hoff hown ⟨oI, hoI⟩ hLI hbI hF3 hN3
    simp only [overs] at hF3
    clear hF2 hN2'
    try dsimp only
    walk_at "my few"
    refine entry_spec (((C0 _).keep (Fr.keep hF3)).le (by decide)) fun h4 tk4 a dx ua rl t1 t2 t3 t4 st4 f1 f2 f3 f4 hE4 o1 o2 o3 => ?_
    have hF4 := kept_fr hF3 st4
    have hN4 := news_ent hF3 hN3 st4 f1 f2 f3 f4 hE4
    have hfr : ∀ p ∈ (lO, W.listOf (List.toArray (refs6 es)) c) :: (flat6 w.params es ++ [(lRu, W.listOf vsR.toArray 0)]), @Ne Nat p.1 ua ∧ @Ne Nat p.1 rl ∧ @Ne Nat p.1 a ∧ @Ne Nat p.1 dx := fun p hp => by
      have z := (hN3 p (List.mem_append_left _ hp)).1
      exact ⟨ne_base z f3, ne_base z f4, ne_base z f1, ne_base z f2⟩
    have hIf : @Ne Nat I ua ∧ @Ne Nat I rl ∧ @Ne Nat I a ∧ @Ne Nat I dx := ⟨ne_base hoI f3, ne_base hoI f4, ne_base hoI f1, ne_base hoI f2⟩
    have p1 : @LT.lt Nat _ dx a := o1
    have p2 : @LT.lt Nat _ a ua := o2
    have p3 : @LT.lt Nat _ ua rl := o3
    clear hF3 hN3 hE4
    try dsimp only
    walk_at "my few"
    rename Fr _ _ _ _ => hF5
    rename News _ _ _ _ => hN5
    refine get_ua hF5 KX (hN5 _ (.tail _ (.tail _ (.head _)))).1 (hN5 _ (.tail _ (.tail _ (.tail _ (.head _))))).1 ?_
    try dsimp only
    walk_at "my few"
    refine app_strs (vs := []) (ss := []) hF5 hN5 (.tail _ (.head _)) .nil (Nat.zero_le _) fun h6 n6 vs6 hv6 hl6 hF6 hN6 => ?_
    have hN7 : News s1.heap s1.heap.objs.size h6 ((ua, W.listOf (List.toArray vs6) n6) :: (rl, W.listOf (List.toArray []) 0) :: (a, instObj 59 dx) :: (dx, entD w.params t1 t2 t3 t4 ua rl .none .none) :: ((lO, W.listOf (List.toArray (refs6 es)) c) :: (flat6 w.params es ++ [(lRu, W.listOf vsR.toArray 0)]) ++ own)) := hN6 _ fun p hp => by
      rcases List.mem_cons.mp hp with rfl | hp
      · exact .inl rfl
      · rcases List.mem_cons.mp hp with rfl | hp
        · exact .inr ⟨.head _, by show @Ne Nat rl ua; omega⟩
        · rcases List.mem_cons.mp hp with rfl | hp
          · exact .inr ⟨.tail _ (.tail _ (.head _)), by show @Ne Nat a ua; omega⟩
          · rcases List.mem_cons.mp hp with rfl | hp
            · exact .inr ⟨.tail _ (.tail _ (.tail _ (.head _))), by show @Ne Nat dx ua; omega⟩
            · refine .inr ⟨.tail _ (.tail _ (.tail _ (.tail _ hp))), ?_⟩
              rcases List.mem_append.mp hp with hp | hp
              · exact (hfr p hp).1
              · rw [hown p hp]; exact hIf.1
    (try clear hN5); (try clear hF5); (try clear hN6); (try clear hN4); (try clear hF4)
    try dsimp only
    walk_at "my few"
    rename Fr _ _ _ _ => hF8
    rename News _ _ _ _ => hN8
    refine app_at hF8 hN8 (.tail _ (.tail _ (.tail _ (.tail _ (.head _))))) (by rw [List.length_map]; omega) fun h9 n9 hF9 hN9 => ?_
    try dsimp only
    walk_at "my few"
    obtain ⟨e', he'⟩ : ∃ e' : E6, e' = ⟨a, dx, ua, rl, vs6, [], [Str.ofString "fig"], [], [], [], .none, .none, t1, t2, t3, t4, n6, 0⟩ := ⟨_, rfl⟩
    have er : refs6 (es ++ [e']) = refs6 es ++ [Value.ref a] := by rw [he']; simp [refs6]
    have ef : flat6 w.params (es ++ [e']) = flat6 w.params es ++ [(ua, W.listOf (List.toArray vs6) n6), (rl, W.listOf (List.toArray []) 0), (a, instObj 59 dx), (dx, entD w.params t1 t2 t3 t4 ua rl .none .none)] := by rw [he']; simp [flat6, E6.objs]
    have hEo : ∀ p ∈ [(ua, W.listOf (List.toArray vs6) n6), (rl, W.listOf (List.toArray []) 0), (a, instObj 59 dx), (dx, entD w.params t1 t2 t3 t4 ua rl .none .none)], p.1 ≠ lO ∧ p.1 ≠ I := fun p hp => by
      have z := hfr _ (.head _)
      simp only [List.mem_cons, List.not_mem_nil, or_false] at hp
      rcases hp with rfl | rfl | rfl | rfl
      · exact ⟨Ne.symm z.1, Ne.symm hIf.1⟩
      · exact ⟨Ne.symm z.2.1, Ne.symm hIf.2.1⟩
      · exact ⟨Ne.symm z.2.2.1, Ne.symm hIf.2.2.1⟩
      · exact ⟨Ne.symm z.2.2.2, Ne.symm hIf.2.2.2⟩
    have hnd' : Nd ((lO, W.listOf (List.toArray (refs6 (es ++ [e']))) n9) :: (flat6 w.params (es ++ [e']) ++ [(lRu, W.listOf vsR.toArray 0)])) := by
      have hn : @List.Nodup Nat ([ua, rl, a, dx] ++ ((lO, W.listOf (List.toArray (refs6 es)) c) :: (flat6 w.params es ++ [(lRu, W.listOf vsR.toArray 0)])).map Prod.fst) := by
        refine List.nodup_append.mpr ⟨?_, hnd, fun x hx y hy q => ?_⟩
        · simp only [List.nodup_cons, List.mem_cons, List.not_mem_nil, or_false, not_or, not_false_eq_true, List.nodup_nil, and_true]
          omega
        · obtain ⟨p, hp, rfl⟩ := List.mem_map.mp hy
          have z := hfr p hp
          simp only [List.mem_cons, List.not_mem_nil, or_false] at hx
          rcases hx with h | h | h | h
          · exact z.1 (q.symm.trans h)
          · exact z.2.1 (q.symm.trans h)
          · exact z.2.2.1 (q.symm.trans h)
          · exact z.2.2.2 (q.symm.trans h)
      refine nd_perm (fun x => ?_) hn
      rw [ef]
      simp only [List.map_cons, List.map_append, List.map_nil, List.count_cons, List.count_append, List.count_nil]
      omega
    refine LoopStepU.intro hF9 (news₂ := (lO, W.listOf (List.toArray (refs6 (es ++ [e']))) n9) :: (flat6 w.params (es ++ [e']) ++ [(lRu, W.listOf vsR.toArray 0)])) (hN9 _ fun p hp => ?_) (fun p hp => ?_) ⟨?_, es ++ [e'], n9, rfl, by simp [hel], hnd', fun x hx => ?_⟩
    · rcases List.mem_append.mp hp with hp | hp
      · refine .inr ⟨.tail _ (.tail _ (.tail _ (.tail _ (List.mem_append_right _ hp)))), ?_⟩
        rw [hown p hp]; exact (hoff _ (.head _)).symm
      · rcases List.mem_cons.mp hp with rfl | hp
        · left; rw [er]
        · have hpl : p.1 ≠ lO := fun q => (List.nodup_cons.mp hnd').1 (List.mem_map.mpr ⟨p, hp, q⟩)
          refine .inr ⟨?_, hpl⟩
          rw [ef] at hp
          rcases List.mem_append.mp hp with hp | hp
          · rcases List.mem_append.mp hp with hp | hp
            · exact .tail _ (.tail _ (.tail _ (.tail _ (List.mem_append_left _ (.tail _ (List.mem_append_left _ hp))))))
            · simp only [List.mem_cons, List.not_mem_nil, or_false] at hp
              rcases hp with rfl | rfl | rfl | rfl
              · exact .head _
              · exact .tail _ (.head _)
              · exact .tail _ (.tail _ (.head _))
              · exact .tail _ (.tail _ (.tail _ (.head _)))
          · exact .tail _ (.tail _ (.tail _ (.tail _ (List.mem_append_left _ (.tail _ (List.mem_append_right _ hp))))))
    · rw [List.mem_singleton]
      rcases List.mem_cons.mp hp with rfl | hp
      · exact hoff (lO, W.listOf (List.toArray (refs6 es)) c) (.head _)
      · rw [ef] at hp
        rcases List.mem_append.mp hp with hp | hp
        · rcases List.mem_append.mp hp with hp | hp
          · exact hoff p (.tail _ (List.mem_append_left _ hp))
          · exact (hEo p hp).2
        · exact hoff p (.tail _ (List.mem_append_right _ hp))
    · intro y hy
      simp only [List.mem_cons, List.not_mem_nil, or_false, not_or] at hy
      simp only [hy, if_false]
    · rcases List.mem_append.mp hx with hx | hx
      · exact hok x hx
      · rw [List.mem_singleton.mp hx, he']
        refine ⟨hv6, .nil, .inl ⟨rfl, rfl⟩, .inl ⟨rfl, rfl⟩, by rw [hl6]; decide, Nat.le_refl _, ⟨?_, (fun _ h => nomatch h), Nat.zero_le _, (fun _ h => nomatch h), Nat.zero_le _, (fun _ h => nomatch h)⟩⟩
        intro y hy
        rw [List.mem_singleton.mp hy]; exact .tail _ (.head _)
  · rintro u news₁ h3 tk3 ⟨es, c, rfl, hel, hnd, hok⟩ hF3 hN3
    simp only [overs] at hF3
    clear hF2 hN2'
    try dsimp only
    walk_at "my few"
    refine' For_invV s1.heap ?q1 ?q2 ?_ ?q3 ?q4
    case q1 => exact rfl
    case q2 => exact rfl
    case q3 => intro _; rfl
    case q4 => passes_own
    walk_at "my few"
    obtain ⟨as, has⟩ : ∃ as, es.map (·.a) = as := ⟨_, rfl⟩
    have hal : as.length = 3 := by rw [← has, List.length_map, hel]
    refine iter_listK2 [Str.ofString "one", Str.ofString "step", Str.ofString "rest"] (J6 w.params lO as [(lRu, W.listOf vsR.toArray 0)]) rfl (hL.at fun o e => hF3.keep _ _ e) hLS hF3 hN3 ⟨es, c, _, rfl, has, hnd, fun p hp => hp, hok⟩ ?_ ?_
    · rintro i v u2 news₁ h5 tk5 I own0 hi hv ⟨es, c, pool, rfl, has, hnd, hbp, hok⟩ hoff hown ⟨oI, hoI⟩ hLI hbI hF5 hN5
      simp only [overs] at hF5
      clear hF3 hN3
      have hi' : i < ns.length := by have := hI.length; simpa [this] using hi
      obtain ⟨q, hq⟩ : ∃ q, ns[i]? = some q := ⟨_, List.getElem?_eq_getElem hi'⟩
      obtain ⟨tq, hvq⟩ := hI.get i q hq
      obtain rfl : v = .int q tq := by
        have : vsS[i]? = some v := by simpa using hv
        rw [hvq] at this; exact (Option.some.inj this).symm
      clear hv hvq
      have hel : es.length = 3 := by rw [← hal, ← has, List.length_map]
      obtain ⟨olS, holS⟩ : ∃ o, s1.heap.get? lS = some o := by obtain ⟨o, ho, _⟩ := hL; exact ⟨o, ho⟩
      have hk3 : 0 ≤ q.fmod 3 ∧ q.fmod 3 < 3 := ⟨Int.fmod_nonneg_of_pos _ (by decide), Int.fmod_lt_of_pos _ (by decide)⟩
      obtain ⟨e, hge⟩ : ∃ e, es[(q.fmod 3).toNat]? = some e := ⟨_, List.getElem?_eq_getElem (by omega)⟩
      obtain ⟨pre, post, rfl, hpl⟩ := split_at hge
      obtain ⟨nd5, off5⟩ := nd_open hnd
      simp only [List.nodup_cons, List.mem_cons, List.not_mem_nil, or_false, not_or, not_false_eq_true, List.nodup_nil, and_true] at nd5
      obtain ⟨own, hown2⟩ : ∃ own, own = (I, oI) :: own0 := ⟨_, rfl⟩
      have hos : ∀ p ∈ own0, p ∈ own := fun p hp => hown2 ▸ .tail _ hp
      have hIown : (I, oI) ∈ own := hown2 ▸ .head _
      replace hown : ∀ p ∈ own, p.1 = I ∨ p.1 = lS := fun p hp => by
        rw [hown2] at hp
        rcases List.mem_cons.mp hp with rfl | hp
        · exact .inl rfl
        · exact hown p hp
      obtain ⟨R, hR⟩ : ∃ R, R = (flat6 w.params pre ++ flat6 w.params post) ++ pool ++ own := ⟨_, rfl⟩
      have oldm : ∀ p ∈ e.objs w.params ++ ((lO, W.listOf (List.toArray (refs6 (pre ++ e :: post))) c) :: ((flat6 w.params pre ++ flat6 w.params post) ++ pool)), p ∈ (lO, W.listOf (List.toArray (refs6 (pre ++ e :: post))) c) :: (flat6 w.params (pre ++ e :: post) ++ pool) := fun p hp => by
        rw [flat6_split]
        simp only [List.mem_append, List.mem_cons] at hp ⊢
        rcases hp with h | h | (h | h) | h
        · exact .inr (.inl (.inr (.inl h)))
        · exact .inl h
        · exact .inr (.inl (.inl h))
        · exact .inr (.inl (.inr (.inr h)))
        · exact .inr (.inr h)
      have hN6 : News s1.heap s1.heap.objs.size h5 ((e.ua, W.listOf e.vs.toArray e.n) :: (e.rl, W.listOf e.rs.toArray e.m) :: (e.a, instObj 59 e.dx) :: (e.dx, entD w.params e.t1 e.t2 e.t3 e.t4 e.ua e.rl e.de e.ra) :: (lO, W.listOf (List.toArray (refs6 (pre ++ e :: post))) c) :: R) := fun p hp => by
        have hp : p ∈ e.objs w.params ++ ((lO, W.listOf (List.toArray (refs6 (pre ++ e :: post))) c) :: R) := hp
        rw [hR] at hp
        rcases List.mem_append.mp hp with hp | hp
        · exact hN5 p (List.mem_append_left _ (oldm p (List.mem_append_left _ hp)))
        · rcases List.mem_cons.mp hp with rfl | hp
          · exact hN5 _ (List.mem_append_left _ (.head _))
          · rcases List.mem_append.mp hp with hp | hp
            · exact hN5 p (List.mem_append_left _ (oldm p (List.mem_append_right _ (.tail _ hp))))
            · rw [hown2] at hp
              rcases List.mem_cons.mp hp with rfl | hp
              · exact ⟨hoI, Ne.symm hLI, hbI⟩
              · exact hN5 p (List.mem_append_right _ hp)
      have mR1 : ∀ p ∈ flat6 w.params pre ++ flat6 w.params post, p ∈ R := fun p hp => hR ▸ List.mem_append_left _ (List.mem_append_left _ hp)
      have mR2 : ∀ p ∈ pool, p ∈ R := fun p hp => hR ▸ List.mem_append_left _ (List.mem_append_right _ hp)
      have mR3 : ∀ p ∈ own0, p ∈ R := fun p hp => hR ▸ List.mem_append_right _ (hos p hp)
      have mRI : (I, oI) ∈ R := hR ▸ List.mem_append_right _ hIown
      have fr5 : ∀ p ∈ (lO, W.listOf (List.toArray (refs6 (pre ++ e :: post))) c) :: (flat6 w.params (pre ++ e :: post) ++ pool), p.1 ≠ lS := fun p hp => Ne.symm (ne_base holS (hN5 p (List.mem_append_left _ hp)).2.2)
      have hRne : ∀ p ∈ R, p.1 ∉ [lO, e.ua, e.rl, e.a, e.dx] := fun p hp => by
        rw [hR] at hp
        rcases List.mem_append.mp hp with hp | hp
        · exact off5 p hp
        · have inE : ∀ x ∈ [lO, e.ua, e.rl, e.a, e.dx], ∃ p ∈ (lO, W.listOf (List.toArray (refs6 (pre ++ e :: post))) c) :: (flat6 w.params (pre ++ e :: post) ++ pool), p.1 = x := fun x hx => by
            simp only [List.mem_cons, List.not_mem_nil, or_false] at hx
            rcases hx with rfl | rfl | rfl | rfl | rfl
            · exact ⟨_, .head _, rfl⟩
            · exact ⟨_, oldm _ (.head _), rfl⟩
            · exact ⟨_, oldm _ (.tail _ (.head _)), rfl⟩
            · exact ⟨_, oldm _ (.tail _ (.tail _ (.head _))), rfl⟩
            · exact ⟨_, oldm _ (.tail _ (.tail _ (.tail _ (.head _)))), rfl⟩
          intro hm
          obtain ⟨p2, hp2, e2⟩ := inE _ hm
          rcases hown p hp with h | h
          · exact hoff p2 hp2 (e2.trans h)
          · exact fr5 p2 hp2 (e2.trans h)
      clear hN5 hown2 hR
      have okE := hok e (by simp)
      have oth_ua : ∀ p ∈ (e.rl, W.listOf e.rs.toArray e.m) :: (e.a, instObj 59 e.dx) :: (e.dx, entD w.params e.t1 e.t2 e.t3 e.t4 e.ua e.rl e.de e.ra) :: (lO, W.listOf (List.toArray (refs6 (pre ++ e :: post))) c) :: R, p.1 ≠ e.ua := by
        intro p hp q
        rcases List.mem_cons.mp hp with rfl | hp
        · exact nd5.2.1.1 q.symm
        · rcases List.mem_cons.mp hp with rfl | hp
          · exact nd5.2.1.2.1 q.symm
          · rcases List.mem_cons.mp hp with rfl | hp
            · exact nd5.2.1.2.2 q.symm
            · rcases List.mem_cons.mp hp with rfl | hp
              · exact nd5.1.1 q
              · exact hRne p hp (q ▸ .tail _ (.head _))
      have oth_rl : ∀ p ∈ (e.a, instObj 59 e.dx) :: (e.dx, entD w.params e.t1 e.t2 e.t3 e.t4 e.ua e.rl e.de e.ra) :: (lO, W.listOf (List.toArray (refs6 (pre ++ e :: post))) c) :: R, p.1 ≠ e.rl := by
        intro p hp q
        rcases List.mem_cons.mp hp with rfl | hp
        · exact nd5.2.2.1.1 q.symm
        · rcases List.mem_cons.mp hp with rfl | hp
          · exact nd5.2.2.1.2 q.symm
          · rcases List.mem_cons.mp hp with rfl | hp
            · exact nd5.1.2.1 q
            · exact hRne p hp (q ▸ .tail _ (.tail _ (.head _)))
      have oth_dx : ∀ p ∈ (e.a, instObj 59 e.dx) :: (e.ua, W.listOf e.vs.toArray e.n) :: (e.rl, W.listOf e.rs.toArray e.m) :: (lO, W.listOf (List.toArray (refs6 (pre ++ e :: post))) c) :: R, p.1 ≠ e.dx := by
        intro p hp q
        rcases List.mem_cons.mp hp with rfl | hp
        · exact nd5.2.2.2 q
        · rcases List.mem_cons.mp hp with rfl | hp
          · exact nd5.2.1.2.2 q
          · rcases List.mem_cons.mp hp with rfl | hp
            · exact nd5.2.2.1.2 q
            · rcases List.mem_cons.mp hp with rfl | hp
              · exact nd5.1.2.2.2 q
              · exact hRne p hp (q ▸ .tail _ (.tail _ (.tail _ (.tail _ (.head _)))))
      have moI : ∀ p, (p = (lO, W.listOf (List.toArray (refs6 (pre ++ e :: post))) c) ∨ p ∈ flat6 w.params pre ∨ p ∈ e.objs w.params ∨ p ∈ flat6 w.params post ∨ p ∈ pool) → p.1 ≠ I := fun p h => hoff p (by
        rw [flat6_split]
        simp only [List.mem_append, List.mem_cons]
        rcases h with h | h | h | h | h
        · exact .inl h
        · exact .inr (.inl (.inl h))
        · exact .inr (.inl (.inr (.inl h)))
        · exact .inr (.inl (.inr (.inr h)))
        · exact .inr (.inr h))
      have hxO : (refs6 (pre ++ e :: post))[(q.fmod 3).toNat]? = some (.ref e.a) := by rw [refs6, List.getElem?_map, hge]; rfl
      have hrl3 : (refs6 (pre ++ e :: post)).length = 3 := by rw [List.length_map]; exact hel
      try dsimp only
      walk_at "my few"
      refine item_list ⟨_, (hN6 _ (.tail _ (.tail _ (.tail _ (.tail _ (.head _)))))).1, rfl, _, rfl⟩ hk3.1 (by omega) hxO ?_
      try dsimp only
      walk_at "my few"
      · rename Fr _ _ _ _ => hF7
        rename News _ _ _ _ => hN7
        refine get_ua hF7 KX (hN7 _ (.tail _ (.tail _ (.head _)))).1 (hN7 _ (.tail _ (.tail _ (.tail _ (.head _))))).1 ?_
        try dsimp only
        walk_at "my few"
        rename Fr _ _ _ _ => hF8
        rename News _ _ _ _ => hN8
        obtain ⟨vx, hvx, hgx⟩ := five_at (v0 := .str (Str.ofString "plum") _) (v1 := .str (Str.ofString "fig") _) (v2 := .str (Str.ofString "Fig") _) (v3 := .str (Str.ofString "*") _) (v4 := .str (Str.ofString "Allow: /") _) ((q.fdiv 3).fmod 9 + q.fdiv 27)
        refine item_list (v := vx) ⟨_, (hN8 _ (.head _)).1, rfl, _, rfl⟩ (fmod_fit _ (by decide) (by decide)).1 (fmod_fit _ (by decide) (by decide)).2 hgx ?_
        obtain ⟨vX, vt, rfl, hXA⟩ : ∃ a b, vx = Value.str a b ∧ a ∈ AG := by
          rcases hvx with h | h | h | h | h
          · exact ⟨_, _, h, .head _⟩
          · exact ⟨_, _, h, .tail _ (.head _)⟩
          · exact ⟨_, _, h, .tail _ (.tail _ (.head _))⟩
          · exact ⟨_, _, h, .tail _ (.tail _ (.tail _ (.head _)))⟩
          · exact ⟨_, _, h, .tail _ (.tail _ (.tail _ (.tail _ (.head _))))⟩
        clear hvx hgx
        try dsimp only
        walk_at "my few"
        refine app_strs hF8 hN8 (.tail _ (.head _)) okE.ss (by have := okE.vl; omega) fun h9 n9 vs9 hv9 hl9 hF9 hN9 => ?_
        try dsimp only
        walk_at "my few"
        refine turn6s (e := e) (e' := { e with vs := vs9, ss := e.ss ++ [vX], n := n9 }) hF9 (hN9 _ fun p hp => ?_) rfl rfl rfl rfl mR1 mR2 mR3 has hnd hbp hok ⟨hv9, okE.rs, okE.de, okE.ra, by have := okE.vl; show vs9.length ≤ _; omega, Nat.le_succ_of_le okE.rl, okE.ok.agent hXA⟩ hoff (fun y hy => by
          simp only [List.mem_cons, List.not_mem_nil, or_false, not_or] at hy
          simp only [hy, if_false])
        rcases List.mem_cons.mp hp with rfl | hp
        · exact .inl rfl
        · refine .inr ⟨.tail _ (.tail _ hp), fun q => ?_⟩
          exact oth_ua p hp q
      · rename Fr _ _ _ _ => hF7
        rename News _ _ _ _ => hN7
        refine get_rl hF7 KX (hN7 _ (.tail _ (.tail _ (.head _)))).1 (hN7 _ (.tail _ (.tail _ (.tail _ (.head _))))).1 ?_
        try dsimp only
        walk_at "my few"
        have hz := fmod_fit ((q.fdiv 3).fmod 9 - 3 + 2 * q.fdiv 27) (d := 6) (by decide) (by decide)
        have hz6 : (((q.fdiv 3).fmod 9 - 3 + 2 * q.fdiv 27).fmod 6).toNat < RU.length := by
          have h5 : ((q.fdiv 3).fmod 9 - 3 + 2 * q.fdiv 27).fmod 6 < 6 := Int.fmod_lt_of_pos _ (by decide)
          show _ < 6
          omega
        obtain ⟨tX, hgx⟩ := hvsR.get _ _ (List.getElem?_eq_getElem hz6)
        have hXA := List.getElem_mem hz6
        generalize RU[(((q.fdiv 3).fmod 9 - 3 + 2 * q.fdiv 27).fmod 6).toNat] = vX at hgx hXA
        refine item_list ⟨_, (hN7 _ (.tail _ (.tail _ (.tail _ (.tail _ (.tail _ (mR2 _ (hbp _ (.head _)))))))) ).1, rfl, _, rfl⟩ hz.1 hz.2 hgx ?_
        try dsimp only
        walk_at "my few"
        refine app_strs hF7 hN7 (.tail _ (.head _)) okE.rs (by have := okE.rl; omega) fun h9 n9 vs9 hv9 hl9 hF9 hN9 => ?_
        try dsimp only
        walk_at "my few"
        refine turn6s (e := e) (e' := { e with rs := vs9, rr := e.rr ++ [vX], m := n9 }) hF9 (hN9 _ fun p hp => ?_) rfl rfl rfl rfl mR1 mR2 mR3 has hnd hbp hok ⟨okE.ss, hv9, okE.de, okE.ra, Nat.le_succ_of_le okE.vl, by have := okE.rl; show vs9.length ≤ _; omega, okE.ok.rule hXA⟩ hoff (fun y hy => by
          simp only [List.mem_cons, List.not_mem_nil, or_false, not_or] at hy
          simp only [hy, if_false])
        rcases List.mem_cons.mp hp with rfl | hp
        · exact .inr ⟨.head _, fun q => nd5.2.1.1 q⟩
        · rcases List.mem_cons.mp hp with rfl | hp
          · exact .inl rfl
          · exact .inr ⟨.tail _ (.tail _ hp), oth_rl p hp⟩
      · rename Fr _ _ _ _ => hF7
        rename News _ _ _ _ => hN7
        obtain ⟨vx, hvx, hgx⟩ := three_at (v0 := .int 0 _) (v1 := .int 12 _) (v2 := .none) (q.fdiv 27)
        refine item_list (v := vx) ⟨_, (hN7 _ (.head _)).1, rfl, _, rfl⟩ (fmod_fit _ (by decide) (by decide)).1 (fmod_fit _ (by decide) (by decide)).2 hgx ?_
        obtain ⟨dl', hdl', hd1, hd2⟩ := dl_at hvx
        clear hvx hgx
        try dsimp only
        walk_at "my few"
        refine set_delay hF7 KX (fun p hp => hN7 p (.tail _ (mem_up hp))) oth_dx fun h9 u9 hF9 hN9 => ?_
        try dsimp only
        walk_at "my few"
        exact turn6s (e := e) (e' := { e with de := vx, dl := dl', t3 := u9 }) hF9 (fun p hp => hN9 p (mem_dn hp)) rfl rfl rfl rfl mR1 mR2 mR3 has hnd hbp hok ⟨okE.ss, okE.rs, hdl', okE.ra, Nat.le_succ_of_le okE.vl, Nat.le_succ_of_le okE.rl, ⟨okE.ok.ag, hd1, hd2, okE.ok.ra, okE.ok.q1, okE.ok.ru⟩⟩ hoff (fun y hy => by
          simp only [List.mem_cons, List.not_mem_nil, or_false, not_or] at hy
          simp only [hy, if_false])
      · rename Fr _ _ _ _ => hF7
        rename News _ _ _ _ => hN7
        refine set_rate hF7 KX (fun p hp => hN7 p (mem_up hp)) oth_dx fun h9 u9 hF9 hN9 => ?_
        have okN : E6Ok w.params pool (i + 1) { e with ra := .none, ql := [], t4 := u9 } := ⟨okE.ss, okE.rs, okE.de, .inl ⟨rfl, rfl⟩, Nat.le_succ_of_le okE.vl, Nat.le_succ_of_le okE.rl, ⟨okE.ok.ag, okE.ok.de, okE.ok.d1, (fun _ h => nomatch h), Nat.zero_le _, okE.ok.ru⟩⟩
        try dsimp only
        walk_at "my few"
        · rename (q.fdiv 27).fmod 3 < 2 => hz2
          rename Fr _ _ _ _ => hF10
          rename News _ _ _ _ => hN10
          refine entry_spec (((C0 _).keep (Fr.keep hF10)).le (by decide)) fun h11 tk11 a' dx' ua' rl' y1 y2 y3 y4 st11 f1 f2 f3 f4 hE11 o1 o2 o3 => ?_
          have p1 : @LT.lt Nat _ dx' a' := o1
          have hfr : ∀ p ∈ (e.dx, entD w.params e.t1 e.t2 e.t3 u9 e.ua e.rl e.de .none) :: (e.a, instObj 59 e.dx) :: (e.ua, W.listOf e.vs.toArray e.n) :: (e.rl, W.listOf e.rs.toArray e.m) :: (lO, W.listOf (List.toArray (refs6 (pre ++ e :: post))) c) :: R, p.1 ≠ a' ∧ p.1 ≠ dx' := fun p hp => ⟨ne_base (hN10 p hp).1 f1, ne_base (hN10 p hp).1 f2⟩
          have hF11 := kept_fr hF10 st11
          have hN11 : News s1.heap s1.heap.objs.size h11 ((e.dx, entD w.params e.t1 e.t2 e.t3 u9 e.ua e.rl e.de .none) :: (e.a, instObj 59 e.dx) :: (a', instObj 59 dx') :: (dx', entD w.params y1 y2 y3 y4 ua' rl' .none .none) :: (e.ua, W.listOf e.vs.toArray e.n) :: (e.rl, W.listOf e.rs.toArray e.m) :: (lO, W.listOf (List.toArray (refs6 (pre ++ e :: post))) c) :: R) := by
            have k := kept_news hN10 st11
            exact news_push (k _ (.head _)) (news_push (k _ (.tail _ (.head _))) (news_push (news_fresh hF10 f1 hE11.at_) (news_push (news_fresh hF10 f2 hE11.dict) fun p hp => k p (.tail _ (.tail _ hp)))))
          clear hF10 hN10 hE11 st11 f1 f2 f3 f4
          try dsimp only
          walk_at "my few"
          refine set_rate hF11 KX hN11 (fun p hp => ?_) fun h12 u12 hF12 hN12 => ?_
          · rcases List.mem_cons.mp hp with rfl | hp
            · exact oth_dx _ (.head _)
            · rcases List.mem_cons.mp hp with rfl | hp
              · exact Ne.symm (hfr _ (.head _)).1
              · rcases List.mem_cons.mp hp with rfl | hp
                · exact Ne.symm (hfr _ (.head _)).2
                · exact oth_dx p (.tail _ hp)
          try dsimp only
          walk_at "my few"
          rename Fr _ _ _ _ => hF13
          rename News _ _ _ _ => hN13
          obtain ⟨tA, hgA⟩ := two_at (a := 0) (b := 30) (z := (q.fdiv 27).fmod 3) (fmod_fit _ (by decide) (by decide)).1 hz2
          refine item_list ⟨_, (hN13 _ (.head _)).1, rfl, _, rfl⟩ (fmod_fit _ (by decide) (by decide)).1 (fmod_fit _ (by decide) (by decide)).2 hgA ?_
          clear hgA
          try dsimp only
          walk_at "my few"
          refine get_ra hF13 KX (hN13 _ (.tail _ (.tail _ (.head _)))).1 (hN13 _ (.tail _ (.head _))).1 rfl ?_
          try dsimp only
          walk_at "my few"
          have hN14 : News s1.heap s1.heap.objs.size _ ((dx', entD w.params y1 y2 y3 y4 ua' rl' .none .none) :: (a', instObj 59 dx') :: (e.dx, entD w.params e.t1 e.t2 e.t3 u12 e.ua e.rl e.de (.ref a')) :: (e.a, instObj 59 e.dx) :: (e.ua, W.listOf e.vs.toArray e.n) :: (e.rl, W.listOf e.rs.toArray e.m) :: (lO, W.listOf (List.toArray (refs6 (pre ++ e :: post))) c) :: R) :=
            news_push (hN13 _ (.tail _ (.tail _ (.tail _ (.tail _ (.head _)))))) (news_push (hN13 _ (.tail _ (.tail _ (.tail _ (.head _))))) (news_push (hN13 _ (.tail _ (.head _))) (news_push (hN13 _ (.tail _ (.tail _ (.head _)))) fun p hp => hN13 p (.tail _ (.tail _ (.tail _ (.tail _ (.tail _ hp))))))))
          have oth_d : ∀ p ∈ (a', instObj 59 dx') :: (e.dx, entD w.params e.t1 e.t2 e.t3 u12 e.ua e.rl e.de (.ref a')) :: (e.a, instObj 59 e.dx) :: (e.ua, W.listOf e.vs.toArray e.n) :: (e.rl, W.listOf e.rs.toArray e.m) :: (lO, W.listOf (List.toArray (refs6 (pre ++ e :: post))) c) :: R, p.1 ≠ dx' := fun p hp => by
            rcases List.mem_cons.mp hp with rfl | hp
            · show @Ne Nat a' dx'; omega
            · rcases List.mem_cons.mp hp with rfl | hp
              · exact (hfr _ (.head _)).2
              · exact (hfr p (.tail _ hp)).2
          refine set_req hF13 KX hN14 oth_d fun h15 u15 hF15 hN15 => ?_
          (try clear hF13); (try clear hN13); (try clear hN14)
          try dsimp only
          walk_at "my few"
          rename Fr _ _ _ _ => hF16
          rename News _ _ _ _ => hN16
          obtain ⟨tB, hgB⟩ := two_at (a := 1) (b := 7) (z := (q.fdiv 27).fmod 3) (fmod_fit _ (by decide) (by decide)).1 hz2
          refine item_list ⟨_, (hN16 _ (.head _)).1, rfl, _, rfl⟩ (fmod_fit _ (by decide) (by decide)).1 (fmod_fit _ (by decide) (by decide)).2 hgB ?_
          clear hgB
          try dsimp only
          walk_at "my few"
          refine get_ra hF16 KX (hN16 _ (.tail _ (.tail _ (.tail _ (.tail _ (.head _)))))).1 (hN16 _ (.tail _ (.tail _ (.tail _ (.head _))))).1 rfl ?_
          try dsimp only
          walk_at "my few"
          refine set_sec hF16 KX (fun p hp => hN16 p (.tail _ hp)) oth_d fun h18 u18 hF18 hN18 => ?_
          try dsimp only
          walk_at "my few"
          obtain ⟨ql', hra', hq1', hq2'⟩ : ∃ ql', RaIn w.params ([(a', instObj 59 dx'), (dx', rateD w.params y1 y2 y3 y4 u15 u18 ua' rl' (.int (if (q.fdiv 27).fmod 3 = 0 then 0 else 30) tA) (.int (if (q.fdiv 27).fmod 3 = 0 then 1 else 7) tB))] ++ pool) (.ref a') ql' ∧ (∀ y ∈ ql', y ∈ RR) ∧ ql'.length ≤ 1 := by
            by_cases hz0 : (q.fdiv 27).fmod 3 = 0
            · simp only [hz0, if_true]
              exact ⟨_, .inr (.inl ⟨a', rfl, ⟨dx', ua', rl', y1, y2, y3, y4, u15, u18, tA, tB, .head _, .tail _ (.head _)⟩, rfl⟩), fun y hy => by rw [List.mem_singleton.mp hy]; exact .head _, Nat.le_refl _⟩
            · simp only [hz0, if_false]
              exact ⟨_, .inr (.inr ⟨a', rfl, ⟨dx', ua', rl', y1, y2, y3, y4, u15, u18, tA, tB, .head _, .tail _ (.head _)⟩, rfl⟩), fun y hy => by rw [List.mem_singleton.mp hy]; exact .tail _ (.head _), Nat.le_refl _⟩
          generalize (if (q.fdiv 27).fmod 3 = 0 then (0 : Int) else 30) = xA at hN18 hra'
          generalize (if (q.fdiv 27).fmod 3 = 0 then (1 : Int) else 7) = xB at hN18 hra'
          have oldF : ∀ p ∈ (lO, W.listOf (List.toArray (refs6 (pre ++ e :: post))) c) :: (flat6 w.params (pre ++ e :: post) ++ pool), p.1 ≠ a' ∧ p.1 ≠ dx' := fun p hp => by
            rw [flat6_split] at hp
            simp only [E6.objs, List.mem_append, List.mem_cons, List.not_mem_nil, or_false] at hp
            rcases hp with rfl | (h | (rfl | rfl | rfl | rfl) | h) | h
            · exact hfr _ (.tail _ (.tail _ (.tail _ (.tail _ (.head _)))))
            · exact hfr p (.tail _ (.tail _ (.tail _ (.tail _ (.tail _ (mR1 p (List.mem_append_left _ h)))))))
            · exact hfr _ (.tail _ (.tail _ (.head _)))
            · exact hfr _ (.tail _ (.tail _ (.tail _ (.head _))))
            · exact hfr _ (.tail _ (.head _))
            · exact (fun z => z) (hfr (e.dx, entD w.params e.t1 e.t2 e.t3 u9 e.ua e.rl e.de .none) (.head _))
            · exact hfr p (.tail _ (.tail _ (.tail _ (.tail _ (.tail _ (mR1 p (List.mem_append_right _ h)))))))
            · exact hfr p (.tail _ (.tail _ (.tail _ (.tail _ (.tail _ (mR2 p h))))))
          have hIq := hfr (I, oI) (.tail _ (.tail _ (.tail _ (.tail _ (.tail _ mRI)))))
          refine turn6 (e := e) (e' := { e with ra := .ref a', ql := ql', t4 := u12 }) (pool := pool) (pool' := [(a', instObj 59 dx'), (dx', rateD w.params y1 y2 y3 y4 u15 u18 ua' rl' (.int xA tA) (.int xB tB))] ++ pool) (c' := c) hF18 hN18 (fun p hp => .tail _ (.tail _ (.tail _ (.tail _ (.tail _ (.tail _ (.tail _ (mR3 p hp)))))))) (.tail _ (.tail _ (.tail _ (.tail _ (.tail _ (.tail _ (.head _))))))) (fun p hp => ?_) (fun p hp => .tail _ (.tail _ (.tail _ (.tail _ (.tail _ (.tail _ (.tail _ (mR1 p hp)))))))) (fun p hp => ?_) rfl has (nd_more hnd rfl rfl rfl rfl ?_ fun p hp r hr => ?_) hbp (fun p hp => List.mem_append_right _ hp) hok ⟨okE.ss, okE.rs, okE.de, hra', Nat.le_succ_of_le okE.vl, Nat.le_succ_of_le okE.rl, ⟨okE.ok.ag, okE.ok.de, okE.ok.d1, hq1', hq2', okE.ok.ru⟩⟩ (fun p hp => ?_) (fun y hy => by
            simp only [List.mem_cons, List.not_mem_nil, or_false, not_or] at hy
            simp only [hy, if_false])
          · simp only [E6.objs, List.mem_cons, List.not_mem_nil, or_false] at hp
            rcases hp with rfl | rfl | rfl | rfl
            · exact .tail _ (.tail _ (.tail _ (.tail _ (.head _))))
            · exact .tail _ (.tail _ (.tail _ (.tail _ (.tail _ (.head _)))))
            · exact .tail _ (.tail _ (.tail _ (.head _)))
            · exact .tail _ (.tail _ (.head _))
          · simp only [List.cons_append, List.nil_append, List.mem_cons] at hp
            rcases hp with rfl | rfl | hp
            · exact .tail _ (.head _)
            · exact .head _
            · exact .tail _ (.tail _ (.tail _ (.tail _ (.tail _ (.tail _ (.tail _ (mR2 p hp)))))))
          · show @List.Nodup Nat [a', dx']
            simp only [List.nodup_cons, List.mem_cons, List.not_mem_nil, or_false, not_false_eq_true, List.nodup_nil, and_true]
            omega
          · have z := oldF p hp
            simp only [List.mem_cons, List.not_mem_nil, or_false] at hr
            rcases hr with rfl | rfl
            · exact z.1
            · exact z.2
          · rw [flat6_split] at hp
            simp only [E6.objs, List.mem_append, List.mem_cons, List.not_mem_nil, or_false] at hp
            rcases hp with h | (h | (rfl | rfl | rfl | rfl) | h) | (rfl | rfl) | h
            · exact moI p (.inl h)
            · exact moI p (.inr (.inl h))
            · exact moI (e.ua, W.listOf e.vs.toArray e.n) (.inr (.inr (.inl (.head _))))
            · exact moI (e.rl, W.listOf e.rs.toArray e.m) (.inr (.inr (.inl (.tail _ (.head _)))))
            · exact moI (e.a, instObj 59 e.dx) (.inr (.inr (.inl (.tail _ (.tail _ (.head _))))))
            · exact moI (e.dx, entD w.params e.t1 e.t2 e.t3 e.t4 e.ua e.rl e.de e.ra) (.inr (.inr (.inl (.tail _ (.tail _ (.tail _ (.head _)))))))
            · exact moI p (.inr (.inr (.inr (.inl h))))
            · exact Ne.symm hIq.1
            · exact Ne.symm hIq.2
            · exact moI p (.inr (.inr (.inr (.inr h))))
        · rename Fr _ _ _ _ => hF9
          rename News _ _ _ _ => hN9
          exact turn6s (e := e) (e' := { e with ra := .none, ql := [], t4 := u9 }) hF9 (fun p hp => hN9 p (mem_dn hp)) rfl rfl rfl rfl mR1 mR2 mR3 has hnd hbp hok okN hoff (fun y hy => by
          simp only [List.mem_cons, List.not_mem_nil, or_false, not_or] at hy
          simp only [hy, if_false])
      · rename Fr _ _ _ _ => hF7
        rename News _ _ _ _ => hN7
        rename_i lU hU7 lU1
        obtain ⟨l1, l2, l3, l4, l5, l6⟩ := lU1
        have oldR : ∀ p ∈ (lO, W.listOf (List.toArray (refs6 (pre ++ e :: post))) c) :: (flat6 w.params (pre ++ e :: post) ++ pool), p.1 ≠ lU := fun p hp => by
          rw [flat6_split] at hp
          simp only [E6.objs, List.mem_append, List.mem_cons, List.not_mem_nil, or_false] at hp
          rcases hp with rfl | (h | (rfl | rfl | rfl | rfl) | h) | h
          · exact Nat.ne_of_lt l5
          · exact Nat.ne_of_lt (allLt_mem l6 p (mR1 p (List.mem_append_left _ h)))
          · exact Nat.ne_of_lt l1
          · exact Nat.ne_of_lt l2
          · exact Nat.ne_of_lt l3
          · exact Nat.ne_of_lt l4
          · exact Nat.ne_of_lt (allLt_mem l6 p (mR1 p (List.mem_append_right _ h)))
          · exact Nat.ne_of_lt (allLt_mem l6 p (mR2 p h))
        have hIU : I ≠ lU := Nat.ne_of_lt (allLt_mem l6 (I, oI) mRI)
        have hN8 : News s1.heap s1.heap.objs.size hU7 ((e.dx, entD w.params e.t1 e.t2 e.t3 e.t4 e.ua e.rl e.de e.ra) :: (e.a, instObj 59 e.dx) :: (lU, W.listOf (List.toArray []) 0) :: (e.rl, W.listOf e.rs.toArray e.m) :: (lO, W.listOf (List.toArray (refs6 (pre ++ e :: post))) c) :: R) :=
          news_push (hN7 _ (.tail _ (.tail _ (.tail _ (.tail _ (.head _)))))) (news_push (hN7 _ (.tail _ (.tail _ (.tail _ (.head _))))) (news_push (hN7 _ (.head _)) (news_push (hN7 _ (.tail _ (.tail _ (.head _)))) fun p hp => hN7 p (.tail _ (.tail _ (.tail _ (.tail _ (.tail _ hp))))))))
        refine set_ua hF7 KX hN8 (fun p hp => ?_) fun h9 u9 hF9 hN9 => ?_
        · rcases List.mem_cons.mp hp with rfl | hp
          · exact oth_dx _ (.head _)
          · rcases List.mem_cons.mp hp with rfl | hp
            · exact Ne.symm (Nat.ne_of_lt l4)
            · exact oth_dx p (.tail _ (.tail _ hp))
        try dsimp only
        walk_at "my few"
        refine turn6 (e := e) (e' := { e with ua := lU, vs := [], ss := [], t1 := u9, n := 0 }) (pool := pool) (pool' := pool) (c' := c) hF9 hN9 (fun p hp => .tail _ (.tail _ (.tail _ (.tail _ (.tail _ (mR3 p hp)))))) (.tail _ (.tail _ (.tail _ (.tail _ (.head _))))) (fun p hp => ?_) (fun p hp => .tail _ (.tail _ (.tail _ (.tail _ (.tail _ (mR1 p hp)))))) (fun p hp => .tail _ (.tail _ (.tail _ (.tail _ (.tail _ (mR2 p hp)))))) rfl has (nd_ua hnd oldR rfl rfl rfl) hbp (fun p hp => hp) hok ⟨.nil, okE.rs, okE.de, okE.ra, Nat.zero_le _, Nat.le_succ_of_le okE.rl, ⟨(fun _ h => nomatch h), okE.ok.de, okE.ok.d1, okE.ok.ra, okE.ok.q1, okE.ok.ru⟩⟩ (fun p hp => ?_) (fun y hy => by
          simp only [List.mem_cons, List.not_mem_nil, or_false, not_or] at hy
          simp only [hy, if_false])
        · simp only [E6.objs, List.mem_cons, List.not_mem_nil, or_false] at hp
          rcases hp with rfl | rfl | rfl | rfl
          · exact .tail _ (.tail _ (.head _))
          · exact .tail _ (.tail _ (.tail _ (.head _)))
          · exact .tail _ (.head _)
          · exact .head _
        · rw [flat6_split] at hp
          simp only [E6.objs, List.mem_append, List.mem_cons, List.not_mem_nil, or_false] at hp
          rcases hp with h | (h | (rfl | rfl | rfl | rfl) | h) | h
          · exact moI p (.inl h)
          · exact moI p (.inr (.inl h))
          · exact Ne.symm hIU
          · exact moI (e.rl, W.listOf e.rs.toArray e.m) (.inr (.inr (.inl (.tail _ (.head _)))))
          · exact moI (e.a, instObj 59 e.dx) (.inr (.inr (.inl (.tail _ (.tail _ (.head _))))))
          · exact moI (e.dx, entD w.params e.t1 e.t2 e.t3 e.t4 e.ua e.rl e.de e.ra) (.inr (.inr (.inl (.tail _ (.tail _ (.tail _ (.head _)))))))
          · exact moI p (.inr (.inr (.inr (.inl h))))
          · exact moI p (.inr (.inr (.inr (.inr h))))
      · rename Fr _ _ _ _ => hF7
        rename News _ _ _ _ => hN7
        exact turn6s (e := e) (e' := e) hF7 hN7 rfl rfl rfl rfl mR1 mR2 mR3 has hnd hbp hok (okE.le (fun p hp => hp) (Nat.le_succ _)) hoff (fun y hy => by
          simp only [List.mem_cons, List.not_mem_nil, or_false, not_or] at hy
          simp only [hy, if_false])
    · rintro u2 news₁ h5 tk5 ⟨es, c, pool, rfl, has2, hnd, hbp, hok⟩ hF5 hN5
      simp only [overs] at hF5
      (try clear hF3); (try clear hN3)
      have hel : es.length = 3 := by rw [← hal, ← has2, List.length_map]
      have hsz63 : vsS.toArray.size ≤ 63 := by have := hI.length; simp; omega
      have hN5f : ∀ e ∈ es, ∀ p ∈ e.objs w.params, h5.get? p.1 = some p.2 ∧ p.1 ≠ s1.heap.objs.size ∧ s1.heap.get? p.1 = none := fun e he p hp => hN5 p (.tail _ (List.mem_append_left _ (List.mem_flatMap.mpr ⟨e, he, hp⟩)))
      have hN5p : ∀ p ∈ pool, h5.get? p.1 = some p.2 ∧ p.1 ≠ s1.heap.objs.size ∧ s1.heap.get? p.1 = none := fun p hp => hN5 p (.tail _ (List.mem_append_right _ hp))
      have hN5o := hN5 _ (.head _)
      obtain ⟨aU, aO, aP⟩ := nd_mut hnd
      try dsimp only
      walk_at "my few"
      refine asg_mut (h₀ := s1.heap) (es.map (·.ua)) (WhW es) rfl rfl rfl ?_ rfl ?_ rfl rfl rfl ?_
      rotate_left 2
      · walk_at "my few"
        refine ⟨lO, refs6 es, _, rfl, ⟨_, hN5o.1, rfl, _, rfl⟩, by rw [List.length_map]; omega, hF5, aO, ?_, ?_, whw_frame es, ⟨fun e he => ⟨e.n, (hN5f e he _ (.head _)).1⟩, .nil⟩, ?_, ?_⟩
        · intro hm
          obtain ⟨e, he, e2⟩ := List.mem_map.mp hm
          exact (hN5f e he _ (.head _)).2.1 e2
        · intro b hb
          obtain ⟨e, he, rfl⟩ := List.mem_map.mp hb
          exact ⟨⟨_, (hN5f e he _ (.head _)).1⟩, (hN5f e he _ (.head _)).2.2⟩
        · intro C i v s₃ m₃ E' ys hv hn₃ hx₃ hk₃ hJ₃
          have hk₄ : ∀ b o, b ∉ es.map (·.ua) → h5.get? b = some o → s₃.heap.get? b = some o := fun b o hbM e => hk₃ b o (List.not_mem_nil) hbM e
          have hF6 : Fr s1.heap s1.heap.objs.size s₃.heap _ := fr_mut hF5 (fun e he => (hN5f e he _ (.head _)).2) hk₄
          have hN6 : News s1.heap s1.heap.objs.size s₃.heap [] := News.nil
          obtain ⟨e, hge, rfl⟩ := refs6_at hv
          have he := List.mem_of_getElem? hge
          have hf := hN5f e he
          walk_at "my few"
          refine whole_en (pool := pool) ((C0 _).le (by decide)) hF6 hge hJ₃ (hf _ (.head _)).2.2 ⟨hk₄ _ _ (aU e he).2.2 (hf _ (.tail _ (.head _))).1, (hf _ (.tail _ (.head _))).2.2⟩ ⟨hk₄ _ _ (aU e he).1 (hf _ (.tail _ (.tail _ (.head _)))).1, (hf _ (.tail _ (.tail _ (.head _)))).2.2⟩ ⟨hk₄ _ _ (aU e he).2.1 (hf _ (.tail _ (.tail _ (.tail _ (.head _))))).1, (hf _ (.tail _ (.tail _ (.tail _ (.head _))))).2.2⟩ (aU e he) (fun p hp => hk₄ _ _ (aP p hp) (hN5p p hp).1) ((hok e he).le (fun _ h => h) hsz63) fun h' tk r hk7 hJ7 => ?_
          exact ⟨h', tk, rfl, hk7, hJ7⟩
        · rintro D h7 tk7 ysW cW hF7 hDW hD0 hDL hJ7 hk7
          have hlr : (refs6 es).length = es.length := List.length_map ..
          obtain ⟨es2, r1, r2, r3, r4, r5⟩ := new_epochs hJ7
          have hW2 : StrsAre ysW (es2.map wholeT) := by rw [r3]; have := hJ7.2; rwa [hlr, List.take_length] at this
          have base7 : ∀ {b : Addr} {o : Obj}, h5.get? b = some o → b ∉ es.map (·.ua) → b ≠ s1.heap.objs.size → h7.get? b = some o := fun e1 h1 h2 => hk7 _ _ h1 h2 e1
          have hN8 : News s1.heap s1.heap.objs.size h7 ((D, W.listOf (List.toArray ysW) cW) :: (lO, W.listOf (List.toArray (refs6 es2)) c) :: (flat6 w.params es2 ++ pool)) := by
            have hD1 : s1.heap.get? D = none := by
              cases q : s1.heap.get? D with
              | none => rfl
              | some o => have := hF5.keep _ _ q; rw [hD0] at this; cases this
            refine news_push ⟨hDW, hDL, hD1⟩ (news_push ⟨by rw [r1]; exact base7 hN5o.1 aO hN5o.2.1, hN5o.2⟩ fun p hp => ?_)
            rcases List.mem_append.mp hp with hp | hp
            · obtain ⟨e2, he2, hp⟩ := List.mem_flatMap.mp hp
              obtain ⟨e, he, n, rfl, hn⟩ := r5 e2 he2
              have hf := hN5f e he
              simp only [E6.objs, List.mem_cons, List.not_mem_nil, or_false] at hp
              rcases hp with rfl | rfl | rfl | rfl
              · exact ⟨hn, (hf _ (.head _)).2⟩
              · exact ⟨base7 (hf _ (.tail _ (.head _))).1 (aU e he).2.2 (hf _ (.tail _ (.head _))).2.1, (hf _ (.tail _ (.head _))).2⟩
              · exact ⟨base7 (hf _ (.tail _ (.tail _ (.head _)))).1 (aU e he).1 (hf _ (.tail _ (.tail _ (.head _)))).2.1, (hf _ (.tail _ (.tail _ (.head _)))).2⟩
              · exact ⟨base7 (hf _ (.tail _ (.tail _ (.tail _ (.head _))))).1 (aU e he).2.1 (hf _ (.tail _ (.tail _ (.tail _ (.head _))))).2.1, (hf _ (.tail _ (.tail _ (.tail _ (.head _))))).2⟩
            · exact ⟨base7 (hN5p p hp).1 (aP p hp) (hN5p p hp).2.1, (hN5p p hp).2⟩
          have hok2 : ∀ e2 ∈ es2, E6Ok w.params pool 63 e2 := fun e2 he2 => by
            obtain ⟨e, he, n, rfl, _⟩ := r5 e2 he2
            have := (hok e he).le (fun _ h => h) hsz63
            exact ⟨this.ss, this.rs, this.de, this.ra, this.vl, this.rl, this.ok⟩
          have hel2 : es2.length = 3 := by rw [r4, hel]
          have aU2 : ∀ e2 ∈ es2, e2.a ∉ es2.map (·.ua) ∧ e2.dx ∉ es2.map (·.ua) ∧ e2.rl ∉ es2.map (·.ua) := fun e2 he2 => by
            obtain ⟨e, he, n, rfl, _⟩ := r5 e2 he2
            rw [r2]; exact aU e he
          have aP2 : ∀ p ∈ pool, p.1 ∉ es2.map (·.ua) := by rw [r2]; exact aP
          have aO2 : lO ∉ es2.map (·.ua) := by rw [r2]; exact aO
          have aD2 : D ∉ es2.map (·.ua) := by
            rw [r2]
            intro hm
            obtain ⟨e, he, q⟩ := List.mem_map.mp hm
            have := (hN5f e he _ (.head _)).1
            rw [show (e.ua, W.listOf e.vs.toArray e.n).1 = D from q, hD0] at this; cases this
          obtain ⟨rest, hrest⟩ : ∃ r, r = (D, W.listOf (List.toArray ysW) cW) :: (lO, W.listOf (List.toArray (refs6 es2)) c) :: (flat6 w.params es2 ++ pool) := ⟨_, rfl⟩
          rw [← hrest] at hN8
          have mW : (D, W.listOf (List.toArray ysW) cW) ∈ rest := hrest ▸ .head _
          have mO : (lO, W.listOf (List.toArray (refs6 es2)) c) ∈ rest := hrest ▸ .tail _ (.head _)
          have mE : ∀ e2 ∈ es2, ∀ p ∈ e2.objs w.params, p ∈ rest := fun e2 he2 p hp => hrest ▸ .tail _ (.tail _ (List.mem_append_left _ (List.mem_flatMap.mpr ⟨e2, he2, hp⟩)))
          have mP : ∀ p ∈ pool, p ∈ rest := fun p hp => hrest ▸ .tail _ (.tail _ (List.mem_append_right _ hp))
          clear hrest hJ7 hk7 base7 r1 r2 r3 r4 r5 aU aO aP hok hnd hN5f hN5p hN5o hDW hD0 hDL
          (try clear hF5); (try clear hN5)
          have hyl : ysW.length = 3 := by rw [hW2.length, List.length_map, hel2]
          try dsimp only
          walk_at "my few"
          refine' For_invV s1.heap ?q1 ?q2 ?_ ?q3 ?q4
          case q1 => exact rfl
          case q2 => exact rfl
          case q3 => intro _; rfl
          case q4 => passes_own
          walk_at "my few"
          refine range_one hF7 hN8 fun h9 tk9 r9 ta9 tb9 tc9 hR9 hF9 hN9 => ?_
          (try clear hF7); (try clear hN8)
          try dsimp only
          refine iter_rangeK2 (n := 3) [Str.ofString "j", Str.ofString "due", Str.ofString "bare", Str.ofString "one"] (fun _ news => news = rest) rfl hR9 (range_small (by decide) (by decide) (by decide) (by decide)) (by rw [rangeSize_nat]; rfl) hF9 hN9 rfl ?_ ?_
          · rintro i ti u10 news₁ h10 tk10 I1 own1 hi hnr hoff1 hown1 ⟨oI1, hoI1⟩ hLI1 hbI1 hF10 hN10
            simp only [overs] at hF10
            rw [hnr] at hN10 hoff1
            clear hnr hF9 hN9 hR9
            have hN11 : News s1.heap s1.heap.objs.size h10 ((I1, oI1) :: (rest ++ own1)) := news_push ⟨hoI1, Ne.symm hLI1, hbI1⟩ hN10
            obtain ⟨rest1, hrest1⟩ : ∃ r, r = (I1, oI1) :: (rest ++ own1) := ⟨_, rfl⟩
            rw [← hrest1] at hN11
            have m1 : ∀ p ∈ rest, p ∈ rest1 := fun p hp => hrest1 ▸ .tail _ (List.mem_append_left _ hp)
            have m1o : ∀ p ∈ own1 ++ rest, p ∈ rest1 := fun p hp => by
              rcases List.mem_append.mp hp with hp | hp
              · exact hrest1 ▸ .tail _ (List.mem_append_right _ hp)
              · exact m1 p hp
            clear hrest1 hN10
            try dsimp only
            walk_at "my few"
            refine' For_invV s1.heap ?q1 ?q2 ?_ ?q3 ?q4
            case q1 => exact rfl
            case q2 => exact rfl
            case q3 => intro _; rfl
            case q4 => passes_own
            walk_at "my few"
            refine range_one hF10 hN11 fun h12 tk12 r12 ta12 tb12 tc12 hR12 hF12 hN12 => ?_
            (try clear hF10); (try clear hN11)
            try dsimp only
            refine iter_rangeK2 (n := 3) [Str.ofString "due", Str.ofString "bare", Str.ofString "one"] (fun _ news => news = rest1) rfl hR12 (range_small (by decide) (by decide) (by decide) (by decide)) (by rw [rangeSize_nat]; rfl) hF12 hN12 rfl ?_ ?_
            · rintro j tj u13 news₁ h13 tk13 I2 own2 hj hnr hoff2 hown2 ⟨oI2, hoI2⟩ hLI2 hbI2 hF13 hN13
              simp only [overs] at hF13
              rw [hnr] at hN13 hoff2
              clear hnr hF12 hN12 hR12
              have hN14 : News s1.heap s1.heap.objs.size h13 ((I2, oI2) :: (rest1 ++ own2)) := news_push ⟨hoI2, Ne.symm hLI2, hbI2⟩ hN13
              obtain ⟨rest2, hrest2⟩ : ∃ r, r = (I2, oI2) :: (rest1 ++ own2) := ⟨_, rfl⟩
              rw [← hrest2] at hN14
              have m2 : ∀ p ∈ rest1, p ∈ rest2 := fun p hp => hrest2 ▸ .tail _ (List.mem_append_left _ hp)
              have m2o : ∀ p ∈ own2 ++ rest1, p ∈ rest2 := fun p hp => by
                rcases List.mem_append.mp hp with hp | hp
                · exact hrest2 ▸ .tail _ (List.mem_append_right _ hp)
                · exact m2 p hp
              have mm : ∀ p ∈ rest, p ∈ rest2 := fun p hp => m2 p (m1 p hp)
              clear hrest2 hN13
              obtain ⟨e1, hg1⟩ : ∃ e, es2[i]? = some e := ⟨_, List.getElem?_eq_getElem (by omega)⟩
              obtain ⟨e2, hg2⟩ : ∃ e, es2[j]? = some e := ⟨_, List.getElem?_eq_getElem (by omega)⟩
              have he1 := List.mem_of_getElem? hg1
              have he2 := List.mem_of_getElem? hg2
              have ok1 := hok2 e1 he1
              have ok2 := hok2 e2 he2
              obtain ⟨tW1, hw1⟩ := hW2.get i (wholeT e1) (by rw [List.getElem?_map, hg1]; rfl)
              obtain ⟨tW2, hw2⟩ := hW2.get j (wholeT e2) (by rw [List.getElem?_map, hg2]; rfl)
              have ho1 : (refs6 es2)[i]? = some (.ref e1.a) := by rw [refs6, List.getElem?_map, hg1]; rfl
              have ho2 : (refs6 es2)[j]? = some (.ref e2.a) := by rw [refs6, List.getElem?_map, hg2]; rfl
              have hrl3 : (refs6 es2).length = 3 := by rw [List.length_map]; exact hel2
              have ei : (0 + (i : Int)).toNat = i := by omega
              have ej : (0 + (j : Int)).toNat = j := by omega
              try dsimp only
              walk_at "my few"
              refine item_list ⟨_, (hN14 _ (mm _ mW)).1, rfl, _, rfl⟩ (by omega) (by omega) (by rw [ei]; exact hw1) ?_
              try dsimp only
              walk_at "my few"
              refine item_list ⟨_, (hN14 _ (mm _ mW)).1, rfl, _, rfl⟩ (by omega) (by omega) (by rw [ej]; exact hw2) ?_
              try dsimp only
              walk_at "my few"
              refine merged_en (((C0 _).keep (Fr.keep hF13)).le (by decide)) ok1 ok2 fun h14 tk14 D2 vsD cD st14 fD gD hvD => ?_
              have hF15 := kept_fr hF13 st14
              have hN15 := news_push (news_fresh hF13 fD gD) (kept_news hN14 st14)
              have hvDK := Hid.mk hvD
              clear hvD
              (try clear hF13); (try clear hN14)
              try dsimp only
              walk_at "my few"
              rename Fr _ _ _ _ => hF16
              rename News _ _ _ _ => hN16
              refine' asg_filter (h₀ := s1.heap) (fun v => match v with | .str y _ => !decide (y = uaLine Mine.seen) | _ => false) rfl ?r0 ?r1 ?r2 ?r3 ?r4 ?r5 ?r6 ?r8 ?r9 ?_ ?r7
              case r0 => exact rfl
              case r1 => exact rfl
              case r2 => decide
              case r3 => exact rfl
              case r4 => decide +kernel
              case r5 => exact rfl
              case r6 => exact rfl
              case r8 => exact rfl
              case r9 => decide
              case r7 => intro _; rfl
              walk_at "my few"
              (try clear hF15); (try clear hN15)
              have okm := ok1.ok.merge ok2.ok
              have k1 := ok1.sl
              have k2 := ok2.sl
              have hmc : (mAg e1.ss e2.ss).length ≤ 200 := Nat.le_trans (List.length_filter_le _ _) (by omega)
              have hrc : (e1.rr ++ e2.rr).length ≤ 200 := by rw [List.length_append]; omega
              have hlc := lines_count okm hmc hrc
              have hDl : vsD.length ≤ 410 := hvDK.out.length ▸ hlc.1
              refine ⟨D2, vsD, _, _, rfl, ⟨_, (hN16 _ (.head _)).1, rfl, _, rfl⟩, by omega, hF16, hN16, ?_, ?_⟩
              · intro C9 s9 m9 E9 v9 hv9 hn9 hx9 hk9
                obtain ⟨k, hk⟩ := List.mem_iff_getElem?.mp hv9
                have hkl : k < (Mine.linesOf (mAg e1.ss e2.ss ++ [Mine.seen]) (mOne e1.dl e2.dl) (mOne e1.ql e2.ql) (e1.rr ++ e2.rr)).length := hvDK.out.length ▸ (List.getElem?_eq_some_iff.mp hk).1
                obtain ⟨ty, hy⟩ := hvDK.out.get k _ (List.getElem?_eq_getElem hkl)
                rw [hk] at hy
                obtain rfl := Option.some.inj hy
                generalize (Mine.linesOf (mAg e1.ss e2.ss ++ [Mine.seen]) (mOne e1.dl e2.dl) (mOne e1.ql e2.ql) (e1.rr ++ e2.rr))[k] = y at hx9
                (try clear hF16); (try clear hN16)
                walk_at "my few"
                all_goals exact ⟨_, _, rfl, fun _ _ e => e⟩
              · intro D17 h17 tk17 c17 hF17 hN17 hne17 hD17 hk17
                have hvB : StrsAre (vsD.filter fun v => match v with | .str y _ => !decide (y = uaLine Mine.seen) | _ => false) (Mine.linesOf (mAg e1.ss e2.ss) (mOne e1.dl e2.dl) (mOne e1.ql e2.ql) (e1.rr ++ e2.rr)) := by
                  rw [← bare_lines okm]
                  exact strs_filt hvDK.out _ _ fun y t => rfl
                generalize (vsD.filter fun v => match v with | .str y _ => !decide (y = uaLine Mine.seen) | _ => false) = vsB at hvB hN17
                have hvBK := Hid.mk hvB
                clear hvB
                (try clear hF16); (try clear hN16)
                try dsimp only
                walk_at "my few"
                refine item_list ⟨_, (hN17 _ (.tail _ (.tail _ (mm _ mO)))).1, rfl, _, rfl⟩ (by omega) (by omega) (by rw [ei]; exact ho1) ?_
                try dsimp only
                walk_at "my few"
                refine item_list ⟨_, (hN17 _ (.tail _ (.tail _ (mm _ mO)))).1, rfl, _, rfl⟩ (by omega) (by omega) (by rw [ej]; exact ho2) ?_
                try dsimp only
                walk_at "my few"
                refine merge6 (((C0 _).keep (Fr.keep hF17)).le (by decide)) (fun p hp => (hN17 _ (.tail _ (.tail _ (mm _ (mE e1 he1 p hp))))).1) (fun p hp => (hN17 _ (.tail _ (.tail _ (mm _ (mE e2 he2 p hp))))).1) ok1 ok2 fun h18 tk18 em st18 fm hne okE es_ ed_ eq_ er_ => ?_
                rw [← es_, ← ed_, ← eq_, ← er_] at hvDK hvBK okm hlc
                have hF18 := kept_fr hF17 st18
                have hN18 : News s1.heap s1.heap.objs.size h18 (em.objs w.params ++ ((D17, W.listOf vsB.toArray c17) :: (D2, W.listOf vsD.toArray cD) :: rest2)) := fun p hp => by
                  rcases List.mem_append.mp hp with hp | hp
                  · exact news_fresh hF17 (fm p hp).1 (fm p hp).2
                  · exact kept_news hN17 st18 p hp
                have off18 : ∀ q ∈ (D17, W.listOf vsB.toArray c17) :: (D2, W.listOf vsD.toArray cD) :: rest2, ∀ p ∈ em.objs w.params, q.1 ≠ p.1 := fun q hq p hp => ne_base (hN17 q hq).1 (fm p hp).1
                clear fm st18 es_ ed_ eq_ er_ hmc hrc hk17 hne17 hD17
                (try clear hF17); (try clear hN17)
                try dsimp only
                walk_at "my few"
                rename Fr _ _ _ _ => hF19
                rename News _ _ _ _ => hN19
                refine str6 (((C0 _).keep (Fr.keep hF19)).le (by decide)) (fun p hp => (hN19 p (List.mem_append_left _ hp)).1) okE (fun p hp => (hN19 _ (List.mem_append_right _ (.tail _ (.tail _ (mm _ (mP p hp)))))).1) fun h20 tk20 t20 st20 => ?_
                have hF20 := kept_fr hF19 st20
                have hN20 := kept_news hN19 st20
                clear st20
                (try clear hF19); (try clear hN19)
                try dsimp only
                walk_at "my few"
                obtain ⟨y0, r0, hy0, hu0⟩ := bare_head okm
                obtain ⟨tb0, hb0⟩ := hvBK.out.get 0 y0 (by rw [hy0]; rfl)
                refine item_list ⟨_, (hN20 _ (List.mem_append_right _ (.head _))).1, rfl, _, rfl⟩ (by omega) (by omega) hb0 ?_
                try dsimp only
                walk_at "my few"
                have hy0l : y0.length ≤ 120 := bare120 okm _ (hy0 ▸ .head _)
                refine' slice_keep ?w1 ?_ ?w3 ?w4
                case w1 => omega
                case w3 => with_unfolding_all rfl
                case w4 => intro _; with_unfolding_all rfl
                intro h21 t21 k21 st21
                try dsimp only at st21
                have hF21 := kept_fr hF20 st21
                have hN21 := kept_news hN20 st21
                clear st21
                (try clear hF20); (try clear hN20)
                try dsimp only
                walk_at "my few"
                walk_at "my few"
                · rename (Txt.slice y0 none (some 12) == _) = true => hq
                  have hne0 : em.ss ≠ [] := fun e => by rw [isUA, hq, e] at hu0; exact absurd hu0 (by decide)
                  refine join_list (ys := Mine.linesOf em.ss em.dl em.ql em.rr) ⟨_, (hN21 _ (List.mem_append_right _ (.head _))).1, rfl, _, rfl⟩ hvBK.out (lines_fit (bare120 okm) (by omega)) fun t22 k22 => ?_
                  rw [show textOf em.ss em.dl em.ql em.rr = Txt.join (Str.ofString "\n") (Mine.linesOf em.ss em.dl em.ql em.rr) from if_neg hne0]
                  try dsimp only
                  generalize Txt.join (Str.ofString "\n") (Mine.linesOf em.ss em.dl em.ql em.rr) = txt
                  walk_at "my few"
                  · rename (txt != txt) = true => hqq
                    exact absurd hqq (by rw [str_bne_self]; decide)
                  have apt := ua_apart (P := w.params) (e := em) fun p hp => (hN21 p (List.mem_append_left _ hp)).1
                  refine get_ua hF21 KX (hN21 _ (List.mem_append_left _ (.tail _ (.tail _ (.head _))))).1 (hN21 _ (List.mem_append_left _ (.tail _ (.tail _ (.tail _ (.head _)))))).1 ?_
                  try dsimp only
                  walk_at "my few"
                  refine app_strs hF21 hN21 (List.mem_append_left _ (.head _)) okE.ss (by have := okE.vl; omega) fun h23 n23 vs23 hv23 hl23 hF23 hN23' => ?_
                  have hN23 := hN23' ((em.ua, W.listOf (List.toArray vs23) n23) :: (em.rl, W.listOf em.rs.toArray em.m) :: (em.a, instObj 59 em.dx) :: (em.dx, entD w.params em.t1 em.t2 em.t3 em.t4 em.ua em.rl em.de em.ra) :: (D17, W.listOf vsB.toArray c17) :: (D2, W.listOf vsD.toArray cD) :: rest2) (fun p hp => by
                    rcases List.mem_cons.mp hp with rfl | hp
                    · exact .inl rfl
                    · rcases List.mem_cons.mp hp with rfl | hp
                      · exact .inr ⟨List.mem_append_left _ (.tail _ (.head _)), Ne.symm hne⟩
                      · rcases List.mem_cons.mp hp with rfl | hp
                        · exact .inr ⟨List.mem_append_left _ (.tail _ (.tail _ (.head _))), apt.1⟩
                        · rcases List.mem_cons.mp hp with rfl | hp
                          · exact .inr ⟨List.mem_append_left _ (.tail _ (.tail _ (.tail _ (.head _)))), apt.2.1⟩
                          · exact .inr ⟨List.mem_append_right _ hp, off18 p hp _ (.head _)⟩)
                  clear hN23'
                  (try clear hF21); (try clear hN21)
                  try dsimp only
                  walk_at "my few"
                  refine str6s (((C0 _).keep (Fr.keep hF23)).le (by decide)) (fun p hp => (hN23 p (.tail _ (mem_cat hp))).1) (hN23 _ (.head _)).1 hv23 okE (fun p hp => (hN23 _ (.tail _ (.tail _ (.tail _ (.tail _ (.tail _ (.tail _ (mm _ (mP p hp)))))))) ).1) fun h24 tk24 t24 st24 => ?_
                  have hF24 := kept_fr hF23 st24
                  have hN24 := kept_news hN23 st24
                  clear st24
                  (try clear hF23); (try clear hN23)
                  try dsimp only
                  walk_at "my few"
                  refine join_list (ys := Mine.linesOf (em.ss ++ [Mine.seen]) em.dl em.ql em.rr) ⟨_, (hN24 _ (.tail _ (.tail _ (.tail _ (.tail _ (.tail _ (.head _))))))).1, rfl, _, rfl⟩ hvDK.out (lines_fit (lines120 okm) (by omega)) fun t25 k25 => ?_
                  rw [show Txt.join (Str.ofString "\n") (Mine.linesOf (em.ss ++ [Mine.seen]) em.dl em.ql em.rr) = wholeT em from rfl]
                  try dsimp only
                  walk_at "my few"
                  · rename (wholeT em != wholeT em) = true => hqq
                    exact absurd hqq (by rw [str_bne_self]; decide)
                  · refine get_rl hF24 KX (hN24 _ (.tail _ (.tail _ (.head _)))).1 (hN24 _ (.tail _ (.tail _ (.tail _ (.head _))))).1 ?_
                    try dsimp only
                    walk_at "my few"
                    refine app_strs hF24 hN24 (.tail _ (.head _)) okE.rs (by have := okE.rl; omega) fun h26 n26 vs26 hv26 hl26 hF26 hN26 => ?_
                    (try clear hF24)
                    try dsimp only
                    walk_at "my few"
                    refine LoopStepU.intro hF26 (news₂ := rest1) (hN26 _ fun p hp => .inr ⟨.tail _ (.tail _ (.tail _ (.tail _ (.tail _ (.tail _ (m2o p hp)))))), off18 p (.tail _ (.tail _ (m2o p hp))) _ (.tail _ (.head _))⟩) (fun p hp => by rw [List.mem_singleton]; exact hoff2 p hp) ⟨fun y hy => ?_, rfl⟩
                    simp only [List.mem_cons, List.not_mem_nil, or_false, not_or] at hy
                    simp only [hy, if_false]
                · rename (Txt.slice y0 none (some 12) == _) = false => hq
                  rename (textOf em.ss em.dl em.ql em.rr != Str.ofString "") = true => hqq
                  have hne0 : em.ss = [] := by
                    rw [isUA, hq] at hu0
                    exact List.isEmpty_iff.mp (by rw [← Bool.not_eq_false', ← hu0])
                  exact absurd hqq (by rw [textOf, if_pos hne0, str_bne_self]; decide)
                · have apt := ua_apart (P := w.params) (e := em) fun p hp => (hN21 p (List.mem_append_left _ hp)).1
                  refine get_ua hF21 KX (hN21 _ (List.mem_append_left _ (.tail _ (.tail _ (.head _))))).1 (hN21 _ (List.mem_append_left _ (.tail _ (.tail _ (.tail _ (.head _)))))).1 ?_
                  try dsimp only
                  walk_at "my few"
                  refine app_strs hF21 hN21 (List.mem_append_left _ (.head _)) okE.ss (by have := okE.vl; omega) fun h23 n23 vs23 hv23 hl23 hF23 hN23' => ?_
                  have hN23 := hN23' ((em.ua, W.listOf (List.toArray vs23) n23) :: (em.rl, W.listOf em.rs.toArray em.m) :: (em.a, instObj 59 em.dx) :: (em.dx, entD w.params em.t1 em.t2 em.t3 em.t4 em.ua em.rl em.de em.ra) :: (D17, W.listOf vsB.toArray c17) :: (D2, W.listOf vsD.toArray cD) :: rest2) (fun p hp => by
                    rcases List.mem_cons.mp hp with rfl | hp
                    · exact .inl rfl
                    · rcases List.mem_cons.mp hp with rfl | hp
                      · exact .inr ⟨List.mem_append_left _ (.tail _ (.head _)), Ne.symm hne⟩
                      · rcases List.mem_cons.mp hp with rfl | hp
                        · exact .inr ⟨List.mem_append_left _ (.tail _ (.tail _ (.head _))), apt.1⟩
                        · rcases List.mem_cons.mp hp with rfl | hp
                          · exact .inr ⟨List.mem_append_left _ (.tail _ (.tail _ (.tail _ (.head _)))), apt.2.1⟩
                          · exact .inr ⟨List.mem_append_right _ hp, off18 p hp _ (.head _)⟩)
                  clear hN23'
                  (try clear hF21); (try clear hN21)
                  try dsimp only
                  walk_at "my few"
                  refine str6s (((C0 _).keep (Fr.keep hF23)).le (by decide)) (fun p hp => (hN23 p (.tail _ (mem_cat hp))).1) (hN23 _ (.head _)).1 hv23 okE (fun p hp => (hN23 _ (.tail _ (.tail _ (.tail _ (.tail _ (.tail _ (.tail _ (mm _ (mP p hp)))))))) ).1) fun h24 tk24 t24 st24 => ?_
                  have hF24 := kept_fr hF23 st24
                  have hN24 := kept_news hN23 st24
                  clear st24
                  (try clear hF23); (try clear hN23)
                  try dsimp only
                  walk_at "my few"
                  refine join_list (ys := Mine.linesOf (em.ss ++ [Mine.seen]) em.dl em.ql em.rr) ⟨_, (hN24 _ (.tail _ (.tail _ (.tail _ (.tail _ (.tail _ (.head _))))))).1, rfl, _, rfl⟩ hvDK.out (lines_fit (lines120 okm) (by omega)) fun t25 k25 => ?_
                  rw [show Txt.join (Str.ofString "\n") (Mine.linesOf (em.ss ++ [Mine.seen]) em.dl em.ql em.rr) = wholeT em from rfl]
                  try dsimp only
                  walk_at "my few"
                  · rename (wholeT em != wholeT em) = true => hqq
                    exact absurd hqq (by rw [str_bne_self]; decide)
                  · refine get_rl hF24 KX (hN24 _ (.tail _ (.tail _ (.head _)))).1 (hN24 _ (.tail _ (.tail _ (.tail _ (.head _))))).1 ?_
                    try dsimp only
                    walk_at "my few"
                    refine app_strs hF24 hN24 (.tail _ (.head _)) okE.rs (by have := okE.rl; omega) fun h26 n26 vs26 hv26 hl26 hF26 hN26 => ?_
                    (try clear hF24)
                    try dsimp only
                    walk_at "my few"
                    refine LoopStepU.intro hF26 (news₂ := rest1) (hN26 _ fun p hp => .inr ⟨.tail _ (.tail _ (.tail _ (.tail _ (.tail _ (.tail _ (m2o p hp)))))), off18 p (.tail _ (.tail _ (m2o p hp))) _ (.tail _ (.head _))⟩) (fun p hp => by rw [List.mem_singleton]; exact hoff2 p hp) ⟨fun y hy => ?_, rfl⟩
                    simp only [List.mem_cons, List.not_mem_nil, or_false, not_or] at hy
                    simp only [hy, if_false]
            · rintro u14 news₁ h14 tk14 hnr hF14 hN14
              simp only [overs] at hF14
              rw [hnr] at hN14
              try dsimp only
              walk_at "my few"
              refine LoopStepU.intro hF14 (news₂ := rest) (fun p hp => hN14 p (m1o p hp)) (fun p hp => by rw [List.mem_singleton]; exact hoff1 p hp) ⟨fun y hy => ?_, rfl⟩
              simp only [List.mem_cons, List.not_mem_nil, or_false, not_or] at hy
              simp only [hy, if_false]
          · rintro u15 news₁ h15 tk15 hnr hF15 hN15
            simp only [overs] at hF15
            rw [hnr] at hN15
            clear hnr hF9 hN9 hR9
            try dsimp only
            walk_at "my few"
            refine eval_mut (es2.map (·.ua)) (WhW es2) rfl rfl ?_ rfl ?_ rfl ?_
            rotate_left 2
            · walk_at "my few"
              have hrl6 : (refs6 es2).length = es2.length := List.length_map ..
              have hrl7 : (refs6 es2).length = 3 := by rw [hrl6]; exact hel2
              have hu15 : ∀ e ∈ es2, e.ua ≠ s1.heap.objs.size ∧ s1.heap.get? e.ua = none := fun e he => (hN15 _ (mE e he _ (.head _))).2
              refine ⟨lO, refs6 es2, rfl, ⟨_, (hN15 _ mO).1, rfl, _, rfl⟩, by omega, aO2, fun b hb => ?_, whw_frame es2, ⟨fun e he => ⟨e.n, (hN15 _ (mE e he _ (.head _))).1⟩, .nil⟩, ?_, ?_⟩
              · obtain ⟨e, he, rfl⟩ := List.mem_map.mp hb
                exact ⟨_, (hN15 _ (mE e he _ (.head _))).1⟩
              · intro C i v s₃ m₃ E' ys hv hn₃ hx₃ hk₃ hJ₃
                have hk₄ : ∀ b o, b ∉ es2.map (·.ua) → h15.get? b = some o → s₃.heap.get? b = some o := fun b o hbM e => hk₃ b o (List.not_mem_nil) hbM e
                have hF16 : Fr s1.heap s1.heap.objs.size s₃.heap _ := fr_mut hF15 hu15 hk₄
                have hN16 : News s1.heap s1.heap.objs.size s₃.heap [] := News.nil
                obtain ⟨e, hge, rfl⟩ := refs6_at hv
                have he := List.mem_of_getElem? hge
                have hf := fun p hp => hN15 p (mE e he p hp)
                walk_at "my few"
                refine whole_en (pool := pool) ((C0 _).le (by decide)) hF16 hge hJ₃ (hf _ (.head _)).2.2 ⟨hk₄ _ _ (aU2 e he).2.2 (hf _ (.tail _ (.head _))).1, (hf _ (.tail _ (.head _))).2.2⟩ ⟨hk₄ _ _ (aU2 e he).1 (hf _ (.tail _ (.tail _ (.head _)))).1, (hf _ (.tail _ (.tail _ (.head _)))).2.2⟩ ⟨hk₄ _ _ (aU2 e he).2.1 (hf _ (.tail _ (.tail _ (.tail _ (.head _))))).1, (hf _ (.tail _ (.tail _ (.tail _ (.head _))))).2.2⟩ (aU2 e he) (fun p hp => hk₄ _ _ (aP2 p hp) (hN15 p (mP p hp)).1) (hok2 e he) fun h' tk r hk7 hJ7 => ?_
                exact ⟨h', tk, rfl, hk7, hJ7⟩
              · intro D16 h16 tk16 ysE cE hD0 hDW hJ16 hk16
                have hF16 := fr_mut hF15 hu15 fun b o hb e => hk16 b o hb e
                have hE2 : StrsAre ysE (es2.map wholeT) := by
                  have := hJ16.2
                  rw [hrl6] at this
                  rwa [List.take_length] at this
                have hDD : h16.get? D = some (W.listOf (List.toArray ysW) cW) := hk16 _ _ aD2 (hN15 _ mW).1
                have hN16 : News s1.heap s1.heap.objs.size h16 [(D, W.listOf (List.toArray ysW) cW)] := news_push ⟨hDD, (hN15 _ mW).2⟩ News.nil
                try dsimp only
                (try clear hF15); (try clear hN15)
                walk_at "my few"
                refine eq_strs_same (by show callerA.units + 3 < _; decide) ⟨_, hDW, rfl, _, rfl⟩ ⟨_, hDD, rfl, _, rfl⟩ hE2 hW2 ?_
                try dsimp only
                walk_at "my few"
                wrow_close
            all_goals decide
      all_goals decide
