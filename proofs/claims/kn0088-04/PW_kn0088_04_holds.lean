import PyProof.Rows.All
import Wide.All
import OpenK.AllK
import Wide.FinOn
import Lean
import PySem.Challenge.RW_kn0088_04
open PySem PySem.W PyProof.Rows
set_option Elab.async false
set_option maxRecDepth 100000
namespace Mine
open PySem.Builtin

-- map's facts
theorem slot_map_next : Slot "map" "__next__" "map.__next__" :=
  .of (owner := "map") (n := "__next__") (by rw [typeLookup_type, builtinLookup_eq_fast]; kernel_rfl) (by decide +kernel) (by decide +kernel) (by decide +kernel)
    (by first | exact .inl (by decide +kernel) | exact .inr (by decide +kernel)) (by rw [isSubtype_type]; kernel_rfl)
theorem slot_map_iter : Slot "map" "__iter__" "map.__iter__" :=
  .of (owner := "map") (n := "__iter__") (by rw [typeLookup_type, builtinLookup_eq_fast]; kernel_rfl) (by decide +kernel) (by decide +kernel) (by decide +kernel)
    (by first | exact .inl (by decide +kernel) | exact .inr (by decide +kernel)) (by rw [isSubtype_type]; kernel_rfl)
theorem slot_map_init : Slot "map" "__init__" "object.__init__" :=
  .of (owner := "object") (n := "__init__") (by rw [typeLookup_type, builtinLookup_eq_fast]; kernel_rfl) (by decide +kernel) (by decide +kernel) (by decide +kernel)
    (by first | exact .inl (by decide +kernel) | exact .inr (by decide +kernel)) (by rw [isSubtype_type]; kernel_rfl)
theorem entry_map_next : entryFor table "map.__next__" = some Builtin.«map.__next__» := entryFor_of_tree (by kernel_rfl)
theorem entry_map_new : entryFor table "map.__new__" = some Builtin.«map.__new__» := entryFor_of_tree (by kernel_rfl)
theorem args_map_next_1 (a : Value) : argsOk "map.__next__" ⟨[a], []⟩ := by unfold argsOk; kernel_rfl
theorem args_map_iter_1 (a : Value) : argsOk "map.__iter__" ⟨[a], []⟩ := by unfold argsOk; kernel_rfl
theorem mro_map : mroOf (.type "map") = pure [.type "map", .type "object"] := by rw [mroOf_type]; kernel_rfl
theorem lookup_map_new : typeLookup (.type "map") "__new__" = pure (some (.builtin "map.__new__")) := by rw [typeLookup_type, builtinLookup_eq_fast]; kernel_rfl
theorem sub_map : isSubtype (.type "map") (.type "map") = pure true := by rw [isSubtype_type]; kernel_rfl
theorem called_map : TypeCalled "map" "map.__new__" "object.__init__" :=
  ⟨by decide +kernel, by decide +kernel, ⟨_, _, mro_map⟩, madeBy_type mro_map lookup_map_new (by decide +kernel), by decide +kernel, by rw [isSubtype_type]; kernel_rfl, slot_map_init⟩
theorem typeCall_map_2 (a b : Value) : checkTypeCall "map" ⟨[a, b], []⟩ = pure () := by kernel_rfl
theorem newCall_map_2 (a b : Value) : checkBuiltinCall "map.__new__" ⟨[.type "map", a, b], []⟩ = pure () := by kernel_rfl
theorem map_no_len : typeLookup (.type "map") "__len__" = pure none := by rw [typeLookup_type, builtinLookup_eq_fast]; kernel_rfl
theorem map_no_hint : typeLookup (.type "map") "__length_hint__" = pure none := by rw [typeLookup_type, builtinLookup_eq_fast]; kernel_rfl
theorem entry_map_iter : entryFor table "map.__iter__" = some Builtin.«dict_keyiterator.__iter__» :=
  entryFor_alias (id' := "dict_keyiterator.__iter__") (by kernel_rfl) (by first | rfl | decide +kernel | (unfold String.splitOn; simp +decide [String.splitOnAux])) (by decide +kernel) (by kernel_rfl)
end Mine
namespace Mine
open PySem.Builtin

abbrev IsMap (h : Heap) (e tup : Addr) (f : Value) : Prop :=
  h.get? e = some { cls := .type "map", dict := none, data := .fields #[.ref tup, f], slots := #[] }

section
variable {prog : Program} {w : World} {A : Around} {E : Value → Shared → Prop} {s : Shared}

theorem pyIter_map {e tup : Addr} {f : Value} {Q : Value → Shared → Prop} (he : IsMap s.heap e tup f) (h : Q (.ref e) s) : wpAny (model prog w) A (pyIter (.ref e)) Q E s := by
  have hT : s.TypeIs (.ref e) "map" := ⟨_, he, rfl⟩
  refine wpAny_pyIter_slot hT slot_map_iter (wpAny_call_entry slot_map_iter hT entry_map_iter ?_ (args_map_iter_1 _))
  show wpAny _ _ (ret (.ref e)) _ _ s
  exact wpAny_pure ⟨_, rfl, "map", _, hT, slot_map_next.lookup, h⟩

theorem map_next_item {e tup it l : Addr} {f : Value} {i : Nat} {items : Array Value} {x : Value} {nt : Nat} {Q : Value → Shared → Prop}
    (he : IsMap s.heap e tup f) (ht : s.heap.get? tup = some { cls := .type "tuple", data := .seq #[.ref it] nt }) (hit : s.heap.IsListIter it l i) (hl : s.heap.IsList l items) (hx : items[i]? = some x) (hne : e ≠ it)
    (hf : ∀ h', h'.IsListIter it l (i + 1) → Heap.SameBut it s.heap h' → wpAny (model prog w) A (call f [x]) Q E { s with heap := h' }) :
    wpAny (model prog w) A (Builtin.«map.__next__» ⟨[.ref e], []⟩) (fun fin s' => ∃ v, fin = .done (.ret v) ∧ Q v s') E s := by
  show wpAny _ _ (field (.ref e) 0 >>= _) _ _ _
  refine wpAny_bind (wpAny_field he rfl (x := .ref tup) rfl ?_)
  show wpAny _ _ (seqItems? (.ref tup) >>= _) _ _ _
  refine wpAny_bind (wpAny_seqItems ht rfl ?_)
  dsimp only
  refine wpAny_bind (m := forIn _ _ _) ?_
  simp only [List.forIn_toArray, List.forIn_cons, List.forIn_nil]
  refine wpAny_bind (wpAny_bind (wpAny_holding (wpAny_nextOf_list_item hit hl hx fun h₁ hit₁ hs₁ => ?_)))
  refine wpAny_pure ?_
  dsimp only
  refine wpAny_pure ?_
  have he₁ : IsMap h₁ e tup f := (hs₁.2 e hne).trans he
  refine wpAny_bind (wpAny_field he₁ rfl (x := f) rfl ?_)
  refine wpAny_bind (wpAny_holding (wpAny_mono (hf h₁ hit₁ hs₁) (fun v s' hq => ?_) fun _ _ x => x))
  refine wpAny_bind (wpAny_letGo ?_)
  exact wpAny_pure ⟨v, rfl, hq⟩

theorem pyNext_map_end {e tup it l : Addr} {f : Value} {i : Nat} {items : Array Value} {nt : Nat} {Q : Option Value → Shared → Prop} (hh : A.handled = none)
    (he : IsMap s.heap e tup f) (ht : s.heap.get? tup = some { cls := .type "tuple", data := .seq #[.ref it] nt }) (hit : s.heap.IsListIter it l i) (hl : s.heap.IsList l items) (hx : items[i]? = none)
    (hQ : ∀ h', Heap.ExtBut it s.heap h' → Q none { s with heap := h' }) : wpAny (model prog w) A (pyNext (.ref e)) Q E s := by
  have hT : s.TypeIs (.ref e) "map" := ⟨_, he, rfl⟩
  unfold pyNext
  refine wpAny_bind (wpAny_attempt (wpAny_callSpecial?_slot (name := Str.ofString "__next__") hT slot_map_next
    (wpAny_call_entry slot_map_next hT entry_map_next ?_ (args_map_next_1 _))))
  show wpAny _ _ (field (.ref e) 0 >>= _) _ _ _
  refine wpAny_bind (wpAny_field he rfl (x := .ref tup) rfl ?_)
  show wpAny _ _ (seqItems? (.ref tup) >>= _) _ _ _
  refine wpAny_bind (wpAny_seqItems ht rfl ?_)
  dsimp only
  refine wpAny_bind (m := forIn _ _ _) ?_
  simp only [List.forIn_toArray, List.forIn_cons, List.forIn_nil]
  refine wpAny_bind (wpAny_bind (wpAny_holding (wpAny_nextOf_list_end hh hit hl hx fun h' x he' hx' => ?_)))
  obtain ⟨o, ho, hc⟩ := hx'
  refine wpAny_bind (wpAny_isInstance (T := "StopIteration") (b := true) ⟨o, ho, hc⟩ isSubtype_stop ?_)
  exact wpAny_pure (hQ _ he')

theorem Walks_map1 (hh : A.handled = none) {base : Heap} (e tup it l : Addr) (f : Value) (items : Array Value) (nt : Nat) (P : Nat → Value → Prop)
    (h1 : e ≠ it) (h2 : tup ≠ it) (h3 : l ≠ it) (hb : base.objs.size ≤ it)
    (hf : ∀ i x (s : Shared) (Q : Value → Shared → Prop) (E : Value → Shared → Prop), items[i]? = some x → base.StaysIn s.heap → (∀ v h' tk, P i v → s.heap.StaysIn h' → Q v { s with heap := h', toks := tk }) → wpAny (model prog w) A.in1 (call f [x]) Q E s) :
    Walks prog w A e ([e, tup, it, l] ++ List.range base.objs.size) [it] items.size P
      (fun i h => base.StaysIn h ∧ IsMap h e tup f ∧ h.get? tup = some { cls := .type "tuple", data := .seq #[.ref it] nt } ∧ h.IsListIter it l i ∧ h.IsList l items) where
  sub := fun b hb => by simp at hb; simp [hb]
  frame := fun i h h' ⟨st, a, b, c, d⟩ hk => ⟨fun b o e => hk b (by have := Heap.lt_size e; simp; right; right; right; right; exact this) o (st b o e), hk e (by simp) _ a, hk tup (by simp) _ b, c.at fun o e => hk it (by simp) o e, d.at fun o e => hk l (by simp) o e⟩
  item := fun i s Q E hi ⟨st, he, ht, hit, hl⟩ hQ => by
    have hT : s.TypeIs (.ref e) "map" := ⟨_, he, rfl⟩
    unfold pyNext
    refine wpAny_bind (wpAny_attempt (wpAny_callSpecial?_slot (name := Str.ofString "__next__") hT slot_map_next
      (wpAny_call_entry slot_map_next hT entry_map_next
        (map_next_item he ht hit hl (x := items[i]) (by simp [hi]) h1 fun h' hit' hs' => ?_) (args_map_next_1 _))))
    have ext : ∀ b o, b ≠ it → s.heap.get? b = some o → h'.get? b = some o := fun b o hb e => hs'.extBut b o hb e
    have st' : base.StaysIn h' := fun b o e => ext b o (fun h => absurd (Heap.lt_size e) (by rw [h]; exact Nat.not_lt.mpr hb)) (st b o e)
    refine hf i items[i] _ _ _ (by simp [hi]) st' fun v h'' tk hP hs'' => wpAny_pure ?_
    refine hQ v h'' tk hP ⟨fun b o e => hs'' _ _ (st' b o e), hs'' _ _ (ext e _ h1 he), hs'' _ _ (ext tup _ h2 ht), hit'.at fun o e => hs'' _ _ e, (hl.at fun o e => ext l _ h3 e).at fun o e => hs'' _ _ e⟩ fun b o hb e => hs'' _ _ (ext b o (fun h => hb (by simp [h])) e)
  done := fun s Q E ⟨st, he, ht, hit, hl⟩ hQ => pyNext_map_end hh he ht hit hl (by simp) fun h' he' => hQ h' s.toks fun b o hb e => he' b o (fun h => hb (by simp [h])) e
  self := fun _ _ _ _ ⟨_, he, _⟩ hQ => pyIter_map he hQ

theorem args_object_init_3 (a b c : Value) : argsOk "object.__init__" ⟨[a, b, c], []⟩ := by unfold argsOk; kernel_rfl
theorem meets_map_new (f : Value) (l : Addr) (items : Array Value) :
    Meets (Builtin.«map.__new__» ⟨[.type "map", f, .ref l], []⟩) (fun _ R s => s.heap.IsList l items ∧
      R (.ok (.ret (.ref (s.heap.objs.size + 2))))
        { s with heap := ((s.heap.push { cls := .type "list_iterator", data := .fields #[.ref l, .int 0 0] }).push { cls := .type "tuple", data := .seq #[.ref s.heap.objs.size] }).push { cls := .type "map", data := .fields #[.ref (s.heap.objs.size + 1), f] } }) :=
  .of_wp fun prog w A R s h => by
    obtain ⟨hp, g, d, tk, os⟩ := s; obtain ⟨hl, h⟩ := h
    have hsub := sub_map
    wp_walk using wpAny_pyIter_list hl
    exact ⟨_, rfl, by simpa [Heap.size_push] using h⟩

section
variable {prog : Program} {w : World} {A : Around} {E : Value → Shared → Prop} {s : Shared}
theorem call_map_list {f : Value} {l : Addr} {items : Array Value} {Q : Value → Shared → Prop} (hL : s.heap.IsList l items)
    (h : ∀ h', IsMap h' (s.heap.objs.size + 2) (s.heap.objs.size + 1) f → h'.get? (s.heap.objs.size + 1) = some { cls := .type "tuple", data := .seq #[.ref s.heap.objs.size] } → h'.IsListIter s.heap.objs.size l 0 →
      h'.objs.size = s.heap.objs.size + 3 → (∀ b o, s.heap.get? b = some o → h'.get? b = some o) → Q (.ref (s.heap.objs.size + 2)) { s with heap := h' }) :
    wpAny (model prog w) A (call (.type "map") [f, .ref l]) Q E s := by
  refine callType_new called_map (by decide) (typeCall_map_2 _ _) (newCall_map_2 _ _) (fun obj => args_object_init_3 obj _ _) entry_map_new
    (meets_map_new f l items) ⟨hL, ?_⟩
  have z1 : (s.heap.push { cls := .type "list_iterator", data := .fields #[.ref l, .int 0 0] }).objs.size = s.heap.objs.size + 1 := Heap.size_push ..
  have z2 : ((s.heap.push { cls := .type "list_iterator", data := .fields #[.ref l, .int 0 0] }).push { cls := .type "tuple", data := .seq #[.ref s.heap.objs.size] }).objs.size = s.heap.objs.size + 2 := by rw [Heap.size_push, z1]
  have he : IsMap (((s.heap.push { cls := .type "list_iterator", data := .fields #[.ref l, .int 0 0] }).push { cls := .type "tuple", data := .seq #[.ref s.heap.objs.size] }).push { cls := .type "map", data := .fields #[.ref (s.heap.objs.size + 1), f] }) (s.heap.objs.size + 2) (s.heap.objs.size + 1) f := by
    have := Heap.get?_push_size ((s.heap.push { cls := .type "list_iterator", data := .fields #[.ref l, .int 0 0] }).push { cls := .type "tuple", data := .seq #[.ref s.heap.objs.size] })
      (o := { cls := .type "map", data := .fields #[.ref (s.heap.objs.size + 1), f] }) rfl
    rw [z2] at this; exact this
  have ht : (((s.heap.push { cls := .type "list_iterator", data := .fields #[.ref l, .int 0 0] }).push { cls := .type "tuple", data := .seq #[.ref s.heap.objs.size] }).push { cls := .type "map", data := .fields #[.ref (s.heap.objs.size + 1), f] }).get? (s.heap.objs.size + 1) = some { cls := .type "tuple", data := .seq #[.ref s.heap.objs.size] } := by
    have := Heap.get?_push_size (s.heap.push { cls := .type "list_iterator", data := .fields #[.ref l, .int 0 0] })
      (o := { cls := .type "tuple", data := .seq #[.ref s.heap.objs.size] }) rfl
    rw [z1] at this; exact Heap.get?_push_of_some _ this
  refine ⟨⟨_, he, rfl⟩, h _ he ht ⟨_, Heap.get?_push_of_some _ (Heap.get?_push_of_some _ (Heap.get?_push_size _ rfl)), rfl, rfl⟩ (by rw [Heap.size_push, z2]) fun b o x => Heap.get?_push_of_some _ (Heap.get?_push_of_some _ (Heap.get?_push_of_some _ x))⟩

/-- list(x), x an iterator of a type that has neither a length nor a hint -/
theorem extend_iter {T : String} {R : Result → Shared → Prop} {I : Addr} {fp wr : List Addr} {G : Array GenState → Array GenState → Prop} {n : Nat} {P : Nat → Value → Prop} {St : Nat → Shared → Prop}
    (hlen : typeLookup (.type T) "__len__" = pure none) (hhint : typeLookup (.type T) "__length_hint__" = pure none) (h2 : (Value.type T == Value.type "list") = false) (h3 : (Value.type T == Value.type "tuple") = false)
    (W : WalksS prog w A.in1 I fp wr G n P St) (hT : ∀ i s, St i s → s.TypeIs (.ref I) T) (S : Addr) (res : Value) (c₀ : Nat) (hst : St 0 s) (hSf : S ∉ fp) (hI : I ∈ fp)
    (hS : s.heap.get? S = some { cls := .type "list", data := .seq #[] c₀ })
    (hR : ∀ s' acc' c', Moved (S :: wr) G s s' → s'.heap.get? S = some { cls := .type "list", dict := none, data := .seq acc' c', slots := #[] } → ItemsOf P acc' n → R (.ok (.ret res)) s') (hn : n ≤ sizeLine) :
    wpAny (model prog w) A.in1 (Builtin.List.listExtendWith (.ref S) (.ref I) res)
      (fun fin s' => match fin with | .done f => R (.ok f) s' | .again c' => c'.quiet = true ∧ codeAny (model prog w) A c' R s') (fun e s' => R (.error e) s') s := by
  have hSI : S ≠ I := fun e => hSf (e ▸ hI)
  unfold Builtin.List.listExtendWith
  refine wpAny_bind (wpAny_typeOf (hT 0 _ hst) ?_)
  have h1 : Builtin.List.listSameRef (.ref S) (.ref I) = false := by simp [Builtin.List.listSameRef, hSI]
  simp only [h1, h2, h3, Bool.or_false, Bool.false_eq_true, if_false]
  refine wpAny_bind (W.self 0 _ _ _ hst ?_)
  refine wpAny_bind (wpAny_holding ?_)
  unfold Builtin.List.listLengthHint
  refine wpAny_bind (wpAny_specialOf (hT 0 _ hst) hlen ?_)
  show wpAny _ A.in1 (specialOf (Value.ref I) (Str.ofString "__length_hint__") >>= _) _ _ _
  refine wpAny_bind (wpAny_specialOf (hT 0 _ hst) hhint ?_)
  refine wpAny_pure ?_
  show wpAny _ A.in1 (rule "list.extend.makes-room" >>= fun _ => Builtin.List.listTouch (.ref S) >>= fun _ =>
    again (.builtin "list.extend.loop" ⟨[.ref S, .ref I, res], []⟩)) _ _ _
  refine wpAny_bind (wpAny_rule ?_)
  refine wpAny_bind ?_
  show wpAny _ A.in1 (updateSeq S (·.push .none) >>= fun _ => updateSeq S (·.pop)) _ _ _
  refine wpAny_bind (wpAny_updateSeq hS rfl ?_)
  have hS₂ := Heap.get?_update_self (Obj.mapSeq (·.push Value.none)) hS rfl
  refine wpAny_updateSeq (hz := by seq_fits) hS₂ rfl ?_
  have hS₃ := Heap.get?_update_self (Obj.mapSeq (·.pop)) hS₂ rfl
  have oth : ∀ b o, b ≠ S → s.heap.get? b = some o → ((s.heap.update S (Obj.mapSeq (·.push Value.none))).update S (Obj.mapSeq (·.pop))).get? b = some o :=
    fun b o hb e => (Heap.get?_update_other _ _ (Ne.symm hb)).trans ((Heap.get?_update_other _ _ (Ne.symm hb)).trans e)
  refine wpAny_pure ⟨plainId_quiet F.plain_extend_loop _, codeAny_extend_loopS W hn _ hSf _ n 0 _ _ _ rfl (Nat.zero_le _)
    (W.frame 0 s _ s.toks hst (Nat.le_refl _) fun b hb o e => oth b o (fun h => hSf (h ▸ hb)) e) hS₃ (ItemsOf.nil P) fun s' acc' c' hm hS' hacc => ?_⟩
  exact hR s' acc' c' (Moved.trans W.gtrans ((Moved.refl W.grefl).then_heap (Nat.le_refl _) fun b o hb e => oth b o (fun h => hb (h ▸ List.mem_cons_self)) e) hm) hS' hacc

theorem list_init_iter {T : String} {R : Result → Shared → Prop} {I : Addr} {fp wr : List Addr} {G : Array GenState → Array GenState → Prop} {n : Nat} {P : Nat → Value → Prop} {St : Nat → Shared → Prop}
    (hlen : typeLookup (.type T) "__len__" = pure none) (hhint : typeLookup (.type T) "__length_hint__" = pure none) (h2 : (Value.type T == Value.type "list") = false) (h3 : (Value.type T == Value.type "tuple") = false)
    (W : WalksS prog w A.in1 I fp wr G n P St) (hT : ∀ i s, St i s → s.TypeIs (.ref I) T) (S : Addr) (hst : St 0 s) (hSf : S ∉ fp) (hI : I ∈ fp)
    (hS : s.heap.get? S = some { cls := .type "list", data := .seq #[] })
    (hR : ∀ s' acc' c', Moved (S :: wr) G s s' → s'.heap.get? S = some { cls := .type "list", dict := none, data := .seq acc' c', slots := #[] } → ItemsOf P acc' n → R (.ok (.ret .none)) s') (hn : n ≤ sizeLine) :
    wpAny (model prog w) A.in1 (Builtin.«list.__init__» ⟨[.ref S, .ref I], []⟩)
      (fun fin s' => match fin with | .done f => R (.ok f) s' | .again c' => c'.quiet = true ∧ codeAny (model prog w) A c' R s') (fun e s' => R (.error e) s') s := by
  show wpAny _ A.in1 (do let old ← Builtin.List.listItems (.ref S); Builtin.List.listUpdate (.ref S) (fun _ => #[]); letGo old.toList.reverse; Builtin.List.listExtendWith (.ref S) (.ref I) .none) _ _ s
  refine wpAny_bind ?_
  unfold Builtin.List.listItems
  refine wpAny_bind (wpAny_seqItems hS rfl (wpAny_pure ?_))
  show wpAny _ A.in1 (updateSeq S (fun _ => #[]) >>= fun _ => letGo (#[] : Array Value).toList.reverse >>= fun _ => Builtin.List.listExtendWith (.ref S) (.ref I) .none) _ _ s
  refine wpAny_bind (wpAny_updateSeq hS rfl ?_)
  have hS₂ := Heap.get?_update_self (Obj.mapSeq (fun _ => (#[] : Array Value))) hS rfl
  have oth : ∀ b o, b ≠ S → s.heap.get? b = some o → (s.heap.update S (Obj.mapSeq (fun _ => (#[] : Array Value)))).get? b = some o :=
    fun b o hb e => (Heap.get?_update_other _ _ (Ne.symm hb)).trans e
  refine wpAny_bind (wpAny_letGo ?_)
  refine extend_iter (hn := hn) hlen hhint h2 h3 W hT S .none _ (W.frame 0 s _ s.toks hst (Nat.le_refl _) fun b hb o e => oth b o (fun h => hSf (h ▸ hb)) e) hSf hI hS₂ fun s' acc' c' hm hS' hacc => ?_
  exact hR s' acc' c' (Moved.trans W.gtrans ((Moved.refl W.grefl).then_heap (Nat.le_refl _) fun b o hb e => oth b o (fun h => hb (h ▸ List.mem_cons_self)) e) hm) hS' hacc

theorem call_list_iter {T : String} {I : Addr} {fp wr : List Addr} {n : Nat} {P : Nat → Value → Prop} {St : Nat → Heap → Prop} {Q : Value → Shared → Prop}
    (hlen : typeLookup (.type T) "__len__" = pure none) (hhint : typeLookup (.type T) "__length_hint__" = pure none) (h2 : (Value.type T == Value.type "list") = false) (h3 : (Value.type T == Value.type "tuple") = false)
    (W : Walks prog w A.in1.in1 I fp wr n P St) (hT : ∀ i h, St i h → ∃ o, h.get? I = some o ∧ o.cls = .type T) (hst : St 0 s.heap) (hfp : ∀ b ∈ fp, b < s.heap.objs.size) (hI : I ∈ fp)
    (hQ : ∀ h' tk acc' c', (∀ b o, b ∉ wr → s.heap.get? b = some o → h'.get? b = some o) → h'.get? s.heap.objs.size = some { cls := .type "list", dict := none, data := .seq acc' c', slots := #[] } → ItemsOf P acc' n →
      Q (.ref s.heap.objs.size) { s with heap := h', toks := tk }) (hn : n ≤ sizeLine) :
    wpAny (model prog w) A (call (.type "list") [.ref I]) Q E s := by
  have hSf : s.heap.objs.size ∉ fp := fun hm => Nat.lt_irrefl _ (hfp _ hm)
  refine callType_codes (Q₁ := fun obj s₁ => obj = .ref s.heap.objs.size ∧ s₁ = { s with heap := s.heap.push { cls := .type "list", data := .seq #[] } }) F.called_list (F.typeCall_list_1 _) F.entry_list_init
    (code_list_new _ ⟨rfl, rfl⟩) fun obj s₁ h₁ => ?_
  obtain ⟨rfl, rfl⟩ := h₁
  have hS : (s.heap.push { cls := .type "list", data := .seq #[] }).get? s.heap.objs.size = some { cls := .type "list", data := .seq #[] } := Heap.get?_push_size _ rfl
  refine ⟨⟨_, hS, rfl⟩, F.args_list_init_2 _ _, list_init_iter (hn := hn) hlen hhint h2 h3 W.toS (fun i s st => hT i _ st) _ (W.frame 0 s.heap _ hst fun b _ o e => Heap.get?_push_of_some _ e) hSf hI hS fun s' acc' c' hm hS' hacc => ?_⟩
  refine ⟨rfl, ?_⟩
  rw [Moved.eq_with hm]
  refine hQ s'.heap s'.toks acc' c' (fun b o hb e => hm.heap b o (fun h => ?_) (Heap.get?_push_of_some _ e)) hS' hacc
  rcases List.mem_cons.mp h with h | h
  · exact absurd (Heap.lt_size e) (h ▸ Nat.lt_irrefl _)
  · exact hb h
end
end
end Mine
namespace Mine
open PySem.Builtin

def special (c : Nat) : Bool := [40, 41, 91, 93, 123, 125, 63, 42, 43, 45, 124, 94, 36, 92, 46, 38, 126, 35, 32, 9, 10, 13, 11, 12].contains c
def esc1 (c : Nat) : List Nat := if special c then [92, c] else [c]
def esc (x : Str) : Str := ⟨(x.cps.toList.flatMap esc1).toArray⟩

/-- the table of the special signs lies at d -/
def TransTab (prog : Program) (w : World) (h : Heap) (d : Addr) : Prop :=
  (d == sysModules) = false ∧ ∃ kvs : List (Int × Value), h.DictOf (intKind prog w) d kvs ∧ (∀ c : Nat, special c = true → ∃ t, valueAt kvs (c : Int) = some (.str ⟨#[92, c]⟩ t)) ∧ ∀ c : Nat, special c = false → valueAt kvs (c : Int) = none

theorem TransTab.keep {prog : Program} {w : World} {h h' : Heap} {d : Addr} (T : TransTab prog w h d) (k : h.StaysIn h') : TransTab prog w h' d :=
  let ⟨lo, kvs, hd, r⟩ := T; ⟨lo, kvs, hd.keep k, r⟩

section
variable {prog : Program} {w : World} {A : Around} {E : Value → Shared → Prop} {s : Shared}
theorem tableLookup_yes {d : Addr} {c : Nat} {Q : Str.Mapped → Shared → Prop} (T : TransTab prog w s.heap d) (hc : special c = true)
    (h : ∀ tk, Q (.text ⟨#[92, c]⟩) { s with toks := tk }) : wpAny (model prog w) A (Str.tableLookup (.ref d) c) Q E s := by
  obtain ⟨lo, kvs, hd, hy, hn⟩ := T
  obtain ⟨t, hv⟩ := hy c hc
  unfold Str.tableLookup
  refine wpAny_bind (wpAny_attempt ?_)
  refine wpAny_bind (wpAny_mkInt ?_)
  refine wpAny_getItem_of (intKind_is prog w _ _) hd.mapOf hv ?_
  dsimp only
  refine wpAny_bind (m := asInt? _) (wpAny_pure ?_)
  dsimp only
  refine wpAny_bind (m := asStr? _) (wpAny_pure ?_)
  exact wpAny_pure (h _)

theorem tableLookup_no {d : Addr} {c : Nat} {Q : Str.Mapped → Shared → Prop} (hh : A.handled = none) (T : TransTab prog w s.heap d) (hc : special c = false)
    (h : ∀ h' tk, s.heap.StaysIn h' → Q .keep { s with heap := h', toks := tk }) : wpAny (model prog w) A (Str.tableLookup (.ref d) c) Q E s := by
  obtain ⟨lo, kvs, hd, hy, hn⟩ := T
  unfold Str.tableLookup
  refine wpAny_bind (wpAny_attempt ?_)
  refine wpAny_bind (wpAny_mkInt ?_)
  refine wpAny_getItem_missing_of (intKind_is prog w _ _) lo hh hd.mapOf (hn c hc) fun h' e hx => ?_
  dsimp only
  obtain ⟨ob, t, ho, hcl, _⟩ := hx.there
  refine wpAny_bind (wpAny_isInstance (T := "KeyError") (b := true) ⟨ob, ho, hcl⟩ (by rw [isSubtype_type]; kernel_rfl) ?_)
  refine wpAny_bind (wpAny_rule (wpAny_pure ?_))
  exact h h' _ hx.keeps

def ptxt (ps : List Str) : List Nat := ps.reverse.flatMap (·.cps.toList)
theorem ptxt_cons (p : Str) (ps : List Str) : ptxt (p :: ps) = ptxt ps ++ p.cps.toList := by simp [ptxt]
theorem ptxt_fold (ps : List Str) : ps.reverse.foldl (fun acc p => acc ++ p.cps) #[] = (ptxt ps).toArray := by
  have : ∀ (l : List Str) (a : Array Nat), l.foldl (fun acc p => acc ++ p.cps) a = a ++ (l.flatMap (·.cps.toList)).toArray := by
    intro l
    induction l with
    | nil => intro a; simp
    | cons q l ih => intro a; rw [List.foldl_cons, ih, List.flatMap_cons]; apply Array.ext'; simp [List.append_assoc]
  rw [this]; simp [ptxt]
theorem esc_len_le : ∀ l : List Nat, (l.flatMap esc1).length ≤ 2 * l.length
  | [] => by simp
  | c :: l => by
    have := esc_len_le l
    rw [List.flatMap_cons, List.length_append, List.length_cons]
    have h2 : (esc1 c).length ≤ 2 := by unfold esc1; split <;> simp
    omega
theorem mem_of_lookup' {c : Nat} {a : Option Nat} : ∀ {l : List (Nat × Option Nat)}, l.lookup c = some a → (c, a) ∈ l
  | [], h => by cases h
  | (k, v) :: l, h => by
    rw [List.lookup_cons] at h
    by_cases e : (c == k) = true
    · rw [e] at h; cases h; rw [eq_of_beq e]; exact .head _
    · rw [Bool.not_eq_true] at e; rw [e] at h; exact .tail _ (mem_of_lookup' h)

theorem call_translate {d : Addr} {x : Str} {t : Tok} {Q : Value → Shared → Prop} (hh : A.handled = none) (T : TransTab prog w s.heap d) (hx : x.length ≤ 1000000)
    (h : ∀ h' tk tk', s.heap.StaysIn h' → Q (.str (esc x) tk) { s with heap := h', toks := tk' }) : wpAny (model prog w) A (call (.builtin "str.translate") [.str x t, .ref d]) Q E s := by
  refine wpAny_call_entry F.slot_str_translate (typeIs_str _ _ _) F.entry_str_translate ?_ (F.args_str_translate_2 _ _)
  unfold Builtin.«str.translate»
  obtain ⟨hp, g, dr, tk, os⟩ := s
  wp_walk
  by_cases h0 : (x.length == 0) = true
  · rw [if_pos h0]
    have e0 : esc x = x := by
      have : x.cps = #[] := by have := eq_of_beq h0; exact Array.size_eq_zero_iff.mp this
      obtain ⟨c⟩ := x
      cases this; rfl
    refine wpAny_bind (wpAny_rule ?_)
    refine wpAny_bind (wpAny_pure ?_)
    exact wpAny_pure ⟨_, rfl, e0 ▸ h hp t tk fun _ _ e => e⟩
  rw [if_neg h0]
  dsimp only
  refine wpAny_bind ?_
  refine MeetsSeq2.wpAny_forIn_array _ (fun rest b s' => ∃ pre h' tk', s' = (⟨h', g, dr, tk', os⟩ : Shared) ∧ hp.StaysIn h' ∧ x.cps.toList = pre ++ rest ∧ ptxt b.1 = pre.flatMap esc1 ∧ b.2.1 = (pre.flatMap esc1).length ∧
    (∀ p ∈ b.2.2.2.1, p.2 = some p.1 ∧ special p.1 = false) ∧ b.2.2.2.2 = false) _ ?turn ?fin _ _ ⟨[], hp, tk, rfl, fun _ _ e => e, rfl, rfl, rfl, by simp, rfl⟩
  case fin =>
    rintro ⟨ps, total, fast, known, ad⟩ s' ⟨pre, h', tk', rfl, st, hpre, hps, htot, hk, had⟩
    dsimp only at hps htot hk had ⊢
    rw [List.append_nil] at hpre
    have hl : (pre.flatMap esc1).length ≤ 2 * x.length := by rw [← hpre]; exact esc_len_le _
    rw [if_neg (by simp only [Str.tooLong, decide_eq_true_eq, sizeLine_eq]; omega), ptxt_fold, hps]
    unfold retStr
    refine wpAny_bind (wpAny_mkStr ?_ (by simp only [PySem.Str.length, List.size_toArray, sizeLine_eq]; omega))
    refine wpAny_pure ⟨_, rfl, ?_⟩
    have : (⟨(pre.flatMap esc1).toArray⟩ : Str) = esc x := by rw [esc, hpre]
    rw [this]
    exact h h' _ _ st
  case turn =>
    rintro c rest ⟨ps, total, fast, known, ad⟩ s' ⟨pre, h', tk', rfl, st, hpre, hps, htot, hk, had⟩
    dsimp only at hps htot hk had ⊢
    subst had
    have hl : (pre.flatMap esc1).length ≤ 2 * x.length := by
      have h1 := esc_len_le pre
      have h2 : pre.length ≤ x.length := by show _ ≤ x.cps.size; rw [← Array.length_toList, hpre]; simp
      omega
    rw [if_neg (by simp only [Str.tooLong, decide_eq_true_eq, sizeLine_eq]; omega)]
    have slow : ∀ (R : ForInStep (List Str × Nat × Bool × List (Nat × Option Nat) × Bool) → Shared → Prop) (h₁ : Heap) (tk₁ : Nat) (fast' : Bool), hp.StaysIn h₁ →
      (∀ b s', (∃ pre h' tk', s' = (⟨h', g, dr, tk', os⟩ : Shared) ∧ hp.StaysIn h' ∧ x.cps.toList = pre ++ rest ∧ ptxt b.1 = pre.flatMap esc1 ∧ b.2.1 = (pre.flatMap esc1).length ∧
            (∀ p ∈ b.2.2.2.1, p.2 = some p.1 ∧ special p.1 = false) ∧ b.2.2.2.2 = false) → R (.yield b) s') → wpAny (model prog w) A.in1 (do
        let __do_lift ← Str.tableLookup (Value.ref d) c
        match __do_lift with
          | Str.Mapped.keep => pure (ForInStep.yield ((⟨#[c]⟩ : Str) :: ps, total + 1, fast', known, false))
          | Str.Mapped.drop => pure (ForInStep.yield (ps, total, fast', known, true))
          | Str.Mapped.char d => pure (ForInStep.yield ((⟨#[d]⟩ : Str) :: ps, total + 1, fast', known, false))
          | Str.Mapped.text t => pure (ForInStep.yield (t :: ps, total + t.length, fast', known, false)))
        R E ⟨h₁, g, dr, tk₁, os⟩ := by
      intro R h₁ tk₁ fast' st₁ hR
      cases hc : special c with
      | true =>
        refine wpAny_bind (tableLookup_yes (T.keep st₁) hc fun tk => wpAny_pure ?_)
        refine hR _ _ ⟨pre ++ [c], _, _, rfl, st₁, by rw [hpre]; simp, ?_, ?_, hk, rfl⟩
        · rw [ptxt_cons, hps]; simp [esc1, hc]
        · simp [esc1, hc, htot, PySem.Str.length]
      | false =>
        refine wpAny_bind (tableLookup_no hh (T.keep st₁) hc fun h₂ tk st₂ => wpAny_pure ?_)
        refine hR _ _ ⟨pre ++ [c], _, _, rfl, fun b o e => st₂ b o (st₁ b o e), by rw [hpre]; simp, ?_, ?_, hk, rfl⟩
        · rw [ptxt_cons, hps]; simp [esc1, hc]
        · simp [esc1, hc, htot]
    cases fast with
    | false =>
      simp only [Bool.false_eq_true, if_false]
      exact slow _ h' tk' false st fun _ _ x => x
    | true =>
      simp only [if_true, Bool.false_eq_true, if_false]
      cases hlk : List.lookup c known with
      | some a =>
        obtain ⟨ha, hc⟩ := hk _ (mem_of_lookup' hlk)
        dsimp only at ha hc ⊢
        subst ha
        refine wpAny_bind (wpAny_pure ?_)
        refine wpAny_pure ⟨pre ++ [c], _, _, rfl, st, by rw [hpre]; simp, ?_, ?_, hk, rfl⟩
        · rw [ptxt_cons, hps]; simp [esc1, hc]
        · simp [esc1, hc, htot]
      | none =>
        dsimp only
        cases hc : special c with
        | true =>
          refine wpAny_bind (tableLookup_yes (T.keep st) hc fun tk => ?_)
          dsimp only
          rw [if_neg (by simp [PySem.Str.length])]
          refine wpAny_bind (wpAny_pure ?_)
          refine wpAny_bind (wpAny_rule ?_)
          exact slow _ _ _ false st fun _ _ x => x
        | false =>
          refine wpAny_bind (tableLookup_no hh (T.keep st) hc fun h₂ tk st₂ => ?_)
          dsimp only
          refine wpAny_bind (wpAny_pure ?_)
          refine wpAny_pure ⟨pre ++ [c], _, _, rfl, fun b o e => st₂ b o (st b o e), by rw [hpre]; simp, ?_, ?_, ?_, rfl⟩
          · rw [ptxt_cons, hps]; simp [esc1, hc]
          · simp [esc1, hc, htot]
          · intro p hp'
            rcases List.mem_cons.mp hp' with rfl | hp'
            · exact ⟨rfl, hc⟩
            · exact hk p hp'
end
def entKv (e : DictEntry) : Int × Value := (match e.key with | .int k _ => k | _ => 0, e.val)
def entOk (e : DictEntry) : Bool := match e.key, e.val with
  | .int k _, .str x _ => e.hash == hashInt k && (decide (0 ≤ k) && (special k.toNat && x == ⟨#[92, k.toNat]⟩))
  | _, _ => false
def tabOk (o : Obj) : Bool := o.cls == .type "dict" && (o.dict == none && (o.slots == #[] && match o.data with
  | .dict es _ => es.toList.all entOk && (decide ((es.toList.map entKv).map (·.1)).Nodup && [40, 41, 91, 93, 123, 125, 63, 42, 43, 45, 124, 94, 36, 92, 46, 38, 126, 35, 32, 9, 10, 13, 11, 12].all fun (c : Nat) => (es.toList.map entKv).any fun kv => kv.1 == (c : Int))
  | _ => false))

theorem transTab_of {prog : Program} {w : World} {h : Heap} {d : Addr} {o : Obj} (hd : (d == sysModules) = false) (ho : h.get? d = some o) (hk : tabOk o = true) : TransTab prog w h d := by
  obtain ⟨c, dd, dt, sl⟩ := o
  simp only [tabOk, Bool.and_eq_true] at hk
  obtain ⟨h1, h2, h3, h4⟩ := hk
  cases dt with
  | dict es ep =>
    simp only [Bool.and_eq_true, decide_eq_true_eq, List.all_eq_true] at h4
    obtain ⟨h4, h5, h6⟩ := h4
    have ok : ∀ e ∈ es.toList, ∃ k t u, e.key = .int k t ∧ e.val = .str ⟨#[92, k.toNat]⟩ u ∧ e.hash = hashInt k ∧ 0 ≤ k ∧ special k.toNat = true := by
      intro e he
      have := h4 e he
      unfold entOk at this
      split at this
      · rename_i k t x u e1 e2
        simp only [Bool.and_eq_true, decide_eq_true_eq, beq_iff_eq] at this
        exact ⟨k, t, u, e1, this.2.2.2 ▸ e2, this.1, this.2.1, this.2.2.1⟩
      · cases this
    refine ⟨hd, es.toList.map entKv, ⟨_, es, ep, ho, ⟨eq_of_beq h1, eq_of_beq h2, eq_of_beq h3⟩, rfl, ?_, ?_, h5⟩, ?_, ?_⟩
    · intro e he
      obtain ⟨k, t, u, e1, e2, e3, e4, e5⟩ := ok e (by simpa using he)
      exact ⟨k, by rw [e1]; exact intKind_is prog w k t, e3⟩
    · have : ∀ l : List DictEntry, (∀ e ∈ l, e ∈ es.toList) → Pairs (intKind prog w) l (l.map entKv) := by
        intro l
        induction l with
        | nil => intro _; exact .nil
        | cons e l ih =>
          intro hl
          obtain ⟨k, t, u, e1, e2, e3, e4, e5⟩ := ok e (hl e (.head _))
          refine .cons ?_ rfl (ih fun e' he' => hl e' (.tail _ he'))
          rw [e1]; show (intKind prog w).is (entKv e).1 _ = true
          rw [show (entKv e).1 = k by simp [entKv, e1]]; exact intKind_is prog w k t
      exact this _ fun _ h => h
    · intro c hc
      have hm : c ∈ [40, 41, 91, 93, 123, 125, 63, 42, 43, 45, 124, 94, 36, 92, 46, 38, 126, 35, 32, 9, 10, 13, 11, 12] := by simpa [special] using hc
      have := h6 c hm
      rw [List.any_eq_true] at this
      obtain ⟨kv, hkv, hkc⟩ := this
      unfold valueAt
      cases hf : (es.toList.map entKv).find? (fun kv => decide (kv.1 = (c : Int))) with
      | none => exact absurd (by simpa using hkc) (by simpa using List.find?_eq_none.mp hf kv hkv)
      | some kv' =>
        have hm' := List.mem_of_find?_eq_some hf
        have hc' : kv'.1 = (c : Int) := by simpa using List.find?_some hf
        obtain ⟨e, he, rfl⟩ := List.mem_map.mp hm'
        obtain ⟨k, t, u, e1, e2, e3, e4, e5⟩ := ok e he
        have hk' : k = (c : Int) := by simpa [entKv, e1] using hc'
        subst hk'
        exact ⟨u, by simpa [entKv] using e2⟩
    · intro c hc
      unfold valueAt
      cases hf : (es.toList.map entKv).find? (fun kv => decide (kv.1 = (c : Int))) with
      | none => rfl
      | some kv' =>
        exfalso
        have hm' := List.mem_of_find?_eq_some hf
        have hc' : kv'.1 = (c : Int) := by simpa using List.find?_some hf
        obtain ⟨e, he, rfl⟩ := List.mem_map.mp hm'
        obtain ⟨k, t, u, e1, e2, e3, e4, e5⟩ := ok e he
        have hk' : k = (c : Int) := by simpa [entKv, e1] using hc'
        subst hk'
        simp [hc] at e5
  | _ => cases h4

end Mine
namespace Mine
open PySem.Builtin

/-- what a call is handed: a room, the written part, the top -/
structure Cx (K : Frag) (pv : Program) (lo : List Str) (mean : ExcName → Option Value) (mg mb : Str → Option Value) (A : Around) (h : Heap) (d : Nat) : Prop where
  hh : A.handled = none
  dep : A.depth + d < recursionLimit
  un : A.units + 8 * d < cLine
  K : K.In h
  T : Top pv lo mean mg mb h

section
variable {K : Frag} {pv : Program} {lo : List Str} {mean : ExcName → Option Value} {mg mb : Str → Option Value} {A : Around} {h h' : Heap} {d : Nat}
theorem Cx.keep (C : Cx K pv lo mean mg mb A h d) (k : ∀ b o, h.get? b = some o → h'.get? b = some o) : Cx K pv lo mean mg mb A h' d := ⟨C.hh, C.dep, C.un, C.K.keeps k, C.T.keeps k⟩
theorem Cx.le (C : Cx K pv lo mean mg mb A h d) {e : Nat} (k : e ≤ d) : Cx K pv lo mean mg mb A h e := ⟨C.hh, by have := C.dep; omega, by have := C.un; omega, C.K, C.T⟩
theorem Cx.in1 (C : Cx K pv lo mean mg mb A h (d + 1)) : Cx K pv lo mean mg mb A.in1 h d := ⟨C.hh, by have := C.dep; show A.depth + d < _; omega, by have := C.un; show A.units + 1 + 8 * d < _; omega, C.K, C.T⟩
theorem Cx.deeper (C : Cx K pv lo mean mg mb A h (d + 1)) (env : Env) : Cx K pv lo mean mg mb (A.deeper env) h d := ⟨C.hh, by have := C.dep; show A.depth + 1 + d < _; omega, by have := C.un; show A.units + 3 + 8 * d < _; omega, C.K, C.T⟩

variable {prog : Program} {w : World} {s : Shared}
theorem fn_call {f : Addr} {oc : Value} {od : Option Addr} {osl : Array (Option Value)} {name : Str} {params : Arguments} {body : List Stmt} {scope : Scope} {pm cd doc : Value} {args : List Value} {Q E : Value → Shared → Prop}
    (C : Cx K pv lo mean mg mb A s.heap (d + 1)) (ho : K.lookup f = some ⟨oc, od, .func (Calls.docDef name params body scope pm cd doc), osl⟩) (hcd : codeIn K cd name = true)
    (hbind : bindArgs (Calls.docDef name params body scope pm cd doc) ⟨args, []⟩ = pure ((params.args.map (·.arg)).zip args))
    (hloc : ∀ x ∈ (params.args.map (·.arg)).zip args, scope.names.lookup x.1 = some .local)
    (hb : ∀ L h₁ tk, Fr s.heap L h₁ (fun x => ((params.args.map (·.arg)).zip args).reverse.lookup x) → News s.heap L h₁ [] →
      wpAny (model prog w) (A.deeper (envOf name scope L f cd)) (execs body (envOf name scope L f cd))
        (fun fl s' => Q (match fl with | .ret v => v | _ => .none) s') (fun _ _ => False) { s with heap := h₁, toks := tk })
    (hco : scope.isCoroutine = false := by rfl) (hgen : scope.isGenerator = false := by rfl) (hk : scope.kind = .function := by rfl)
    (hcell : ∀ x ∈ scope.names, x.2 ≠ .cell := by decide) :
    wpAny (model prog w) A (call (.ref f) args) Q E s := by
  refine wpAny_call (call_pos_ret (by have := C.dep; omega) (C.K _ _ ho) rfl C.T.nolimit (codeRec_of C.K hcd) hbind hloc (fun h₁ F => ?_) hco hgen hk hcell)
  exact hb _ _ _ F News.nil

theorem fn_callC {f : Addr} {oc : Value} {od : Option Addr} {osl : Array (Option Value)} {name : Str} {params : Arguments} {body : List Stmt} {scope : Scope} {pm cd doc : Value} {args : List Value} {Q E : Value → Shared → Prop}
    (C : Cx K pv lo mean mg mb A s.heap (d + 1)) (ho : K.lookup f = some ⟨oc, od, .func (Calls.docDef name params body scope pm cd doc), osl⟩) (hcd : codeIn K cd name = true)
    (hbind : bindArgs (Calls.docDef name params body scope pm cd doc) ⟨args, []⟩ = pure ((params.args.map (·.arg)).zip args))
    (hkind : (((params.args.map (·.arg)).zip args).all fun y => scope.names.lookup y.1 == some .local || scope.names.lookup y.1 == some .cell) = true)
    (hnd : ((cellsFrom 0 scope.names []).map (·.1)).Nodup)
    (hb : ∀ L h₁ tk cells, L = s.heap.objs.size → Fr s.heap L h₁ (bindL (envOfC name scope L f cd).kindOf ((params.args.map (·.arg)).zip args) fun _ => none) → News s.heap L h₁ cells →
      CellsAre (bindC (envOfC name scope L f cd).kindOf ((params.args.map (·.arg)).zip args) fun _ => none) (cellsFrom (L + 1) scope.names []) cells →
      wpAny (model prog w) (A.deeper (envOfC name scope L f cd)) (execs body (envOfC name scope L f cd))
        (fun fl s' => Q (match fl with | .ret v => v | _ => .none) s') (fun _ _ => False) { s with heap := h₁, toks := tk })
    (hco : scope.isCoroutine = false := by rfl) (hgen : scope.isGenerator = false := by rfl) (hk : scope.kind = .function := by rfl) :
    wpAny (model prog w) A (call (.ref f) args) Q E s :=
  wpAny_call (call_cellsN_ret (by have := C.dep; omega) (C.K _ _ ho) rfl C.T.nolimit (codeRec_of C.K hcd) hbind (kindsX hkind _) hnd (fun h₁ tk cells F N Y => hb _ h₁ tk cells rfl F N Y) hco hgen hk)
end

section
open PyProof.V PySem.Spec
variable {prog : Program} {w : World} {A : Around} {E : Value → Shared → Prop} {s : Shared} {env : Env} {h₀ : Heap} {x : Str} {body : List Stmt} {Q : Flow → Shared → Prop}

/-- a loop over any iterator, its word by the turn's number -/
theorem iter_anyJ {I : Addr} {fp : List Addr} {n : Nat} {P : Nat → Value → Prop} {St : Nat → Heap → Prop} {m₀ : Str → Option Value} {news : List (Addr × Obj)} (J : Nat → (Str → Option Value) → List (Addr × Obj) → Prop)
    (W : Walks prog w A I fp [I] n P St) (hL : env.locals ∉ fp) (hI : h₀.get? I = none) (hnew : ∀ p ∈ news, p.1 ≠ I) (hst : St 0 s.heap) (hSt : ∀ i h, St i h → @LT.lt Nat _ I h.objs.size)
    (F : Fr h₀ env.locals s.heap m₀) (N : News h₀ env.locals s.heap news) (hj : J 0 m₀ news)
    (turn : ∀ i v m₁ news₁ h tk own, i < n → P i v → J i m₁ news₁ → (∀ p ∈ news₁, p.1 ≠ I) → (∀ p ∈ own, p.1 ∈ fp) → @LT.lt Nat _ I h.objs.size → Fr h₀ env.locals h (fun y => if y = x then some v else m₁ y) → News h₀ env.locals h (news₁ ++ own) →
      wpAny (model prog w) A (execs body env) (LoopStepV h₀ env.locals [I] own (J (i + 1)) { s with heap := h, toks := tk } (fun v s' => Q (.ret v) s') fun s' => Q .next s') E { s with heap := h, toks := tk })
    (done : ∀ m₁ news₁ h tk, J n m₁ news₁ → (∀ p ∈ news₁, p.1 ≠ I) → Fr h₀ env.locals h m₁ → News h₀ env.locals h news₁ → Q .next { s with heap := h, toks := tk }) :
    LoopAtV prog w A h₀ env x body Q E (.ref I) s := by
  refine ⟨I, fp, [I], n, P, St, m₀, news, J, rfl, W, hL, fun b hb => by rw [List.mem_singleton.mp hb]; exact hI, fun p hp hq => hnew p hp (List.mem_singleton.mp hq), hst, F, N, hj, ?_, ?_⟩
  · rintro i v m₁ news₁ s₁ own ⟨h, tk, rfl⟩ hi hP hJ hoff hown hget hback hst' F₁ N₁
    exact turn i v m₁ news₁ h tk own hi hP hJ (fun p hp e => hoff p hp (List.mem_singleton.mpr e)) hown (hSt _ _ hst') F₁ (fun p hp => N₁ p ((List.mem_append.mp hp).elim (List.mem_append_right _) (List.mem_append_left _)))
  · intro h' tk m' news' F' N' hoff hJ
    exact done m' news' h' tk hJ (fun p hp e => hoff p hp (List.mem_singleton.mpr e)) F' N'

theorem iter_rangeJ {r : Addr} {a₀ b₀ : Int} {t₀ u₀ v₀ : Tok} {n : Nat} {m₀ : Str → Option Value} {news : List (Addr × Obj)} (J : Nat → (Str → Option Value) → List (Addr × Obj) → Prop)
    (hh : A.handled = none) (hr : IsRange s.heap r a₀ b₀ 1 t₀ u₀ v₀) (hsmall : Builtin.Range.small a₀ b₀ 1 = true) (hn : Builtin.Range.rangeSize a₀ b₀ 1 = (n : Int)) (F : Fr h₀ env.locals s.heap m₀) (N : News h₀ env.locals s.heap news) (hj : J 0 m₀ news)
    (turn : ∀ i t m₁ news₁ h tk I own, i < n → J i m₁ news₁ → (∀ p ∈ news₁, p.1 ≠ I) → (∀ p ∈ own, p.1 = I) → @LT.lt Nat _ I h.objs.size → Fr h₀ env.locals h (fun y => if y = x then some (.int (a₀ + (i : Int)) t) else m₁ y) → News h₀ env.locals h (news₁ ++ own) →
      wpAny (model prog w) A (execs body env) (LoopStepV h₀ env.locals [I] own (J (i + 1)) { s with heap := h, toks := tk } (fun v s' => Q (.ret v) s') fun s' => Q .next s') E { s with heap := h, toks := tk })
    (done : ∀ m₁ news₁ h tk, J n m₁ news₁ → Fr h₀ env.locals h m₁ → News h₀ env.locals h news₁ → Q .next { s with heap := h, toks := tk }) :
    wpAny (model prog w) A (pyIter (.ref r)) (fun it s₂ => LoopAtV prog w A h₀ env x body Q E it s₂) E s := by
  refine wpAny_pyIter_range hr hsmall ?_
  have W : Walks prog w A s.heap.objs.size [s.heap.objs.size] [s.heap.objs.size] n (fun i v => i < n ∧ ∃ t, v = .int (a₀ + i * 1) t)
      (fun i h => IsRangeIter h s.heap.objs.size (a₀ + (i : Nat) * 1) ((n : Int) - (i : Nat)) 1) := (Walks.range hh _ a₀ 1 n).bound
  refine iter_anyJ J W ?_ (next_is_new F) ?_ (by show IsRangeIter _ _ _ _ _; rw [hn]; simpa using Heap.get?_push_size _ rfl) (fun i h st => Heap.lt_size st) (F.push _) (fun p hp => ⟨Heap.get?_push_of_some _ (N p hp).1, (N p hp).2⟩) hj ?_ ?_
  · intro hm
    exact absurd F.ns.lt ((List.mem_singleton.mp hm) ▸ Nat.lt_irrefl _)
  · intro p hp hI
    exact absurd (Heap.lt_size (N p hp).1) (hI ▸ Nat.lt_irrefl _)
  · rintro i v m₁ news₁ h tk own hi ⟨_, t, rfl⟩ hJ hoff hown hlt F₁ N₁
    rw [Int.mul_one] at F₁
    exact turn i t m₁ news₁ h tk _ own hi hJ hoff (fun p hp => List.mem_singleton.mp (hown p hp)) hlt F₁ N₁
  · intro m₁ news₁ h tk hJ _ F₁ N₁
    exact done m₁ news₁ h tk hJ F₁ N₁
end

theorem item_list {prog : Program} {w : World} {A : Around} {E : Value → Shared → Prop} {s : Shared} {value slice : PySem.Expr} {l : Addr} {vs : List Value} {k : Int} {u : Tok} {v : Value} {Q : Value → Shared → Prop}
    (hl : s.heap.IsList l vs.toArray) (h0 : 0 ≤ k) (hhi : k < 2 ^ 63) (hx : vs[k.toNat]? = some v) (h : Q v s)
    (hs : subscripted slice false (.ref l) (.int k u) = operate [.ref l, .int k u] (getItem (.ref l) (.int k u)) := by with_unfolding_all rfl) :
    wpAny (model prog w) A (subscriptTail value slice (.ref l) (.int k u)) Q E s :=
  tail_any hl.typeIs slot_list_getitem.lookup (wpAny_getItem_list hl h0 hhi (by simpa using hx) h) hs

section
variable {prog : Program} {w : World} {A : Around} {E : Value → Shared → Prop} {s : Shared} {h₀ : Heap} {L D : Addr} {m : Str → Option Value} {rest : List (Addr × Obj)} {vs : List Value} {n : Nat}
theorem set_list {k : Int} {t : Tok} {v : Value} {Q : Unit → Shared → Prop} (F : Fr h₀ L s.heap m) (N : News h₀ L s.heap ((D, W.listOf vs.toArray n) :: rest)) (hr : ∀ p ∈ rest, p.1 ≠ D) (h0 : 0 ≤ k) (hfit : k < 2 ^ 63) (hk : k < vs.length)
    (h : ∀ h', Fr h₀ L h' m → News h₀ L h' ((D, W.listOf (vs.set k.toNat v).toArray n) :: rest) → Q () { s with heap := h' }) : wpAny (model prog w) A (setItem (.ref D) (.int k t) v) Q E s := by
  have z := N (D, W.listOf vs.toArray n) (.head _)
  refine ki_setAt z.1 h0 hfit (by simpa using hk) (h _ (F.change (Heap.SameBut.update ..) z.2.1 z.2.2) (ki_turn (pre := []) (post := rest) (n' := n) _ N (fun _ h => nomatch h) hr ?_ ?_))
  · simp
  · simp
theorem set_list_neg {k : Int} {t : Tok} {v : Value} {Q : Unit → Shared → Prop} (F : Fr h₀ L s.heap m) (N : News h₀ L s.heap ((D, W.listOf vs.toArray n) :: rest)) (hr : ∀ p ∈ rest, p.1 ≠ D) (h0 : k < 0) (hfit : -(2 ^ 63) ≤ k) (hk : -(vs.length : Int) ≤ k)
    (h : ∀ h', Fr h₀ L h' m → News h₀ L h' ((D, W.listOf (vs.set (k + vs.length).toNat v).toArray n) :: rest) → Q () { s with heap := h' }) : wpAny (model prog w) A (setItem (.ref D) (.int k t) v) Q E s := by
  have z := N (D, W.listOf vs.toArray n) (.head _)
  refine ki_setBack z.1 h0 (by simpa using hk) hfit (h _ (F.change (Heap.SameBut.update ..) z.2.1 z.2.2) (ki_turn (pre := []) (post := rest) (n' := n) _ N (fun _ h => nomatch h) hr ?_ ?_))
  · simp
  · simp
end

theorem item_list_neg {prog : Program} {w : World} {A : Around} {E : Value → Shared → Prop} {s : Shared} {value slice : PySem.Expr} {l : Addr} {vs : List Value} {k : Int} {u : Tok} {v : Value} {Q : Value → Shared → Prop}
    (hl : s.heap.IsList l vs.toArray) (h0 : k < 0) (hfit : -(2 ^ 63) ≤ k) (hk : -(vs.length : Int) ≤ k) (hx : vs[(k + vs.length).toNat]? = some v) (h : Q v s)
    (hs : subscripted slice false (.ref l) (.int k u) = operate [.ref l, .int k u] (getItem (.ref l) (.int k u)) := by with_unfolding_all rfl) :
    wpAny (model prog w) A (subscriptTail value slice (.ref l) (.int k u)) Q E s :=
  tail_any hl.typeIs slot_list_getitem.lookup (wpAny_getItem_list_neg hl h0 (by simpa using hk) hfit (by simpa using hx) h) hs
theorem upd_upd (x : Str) (u v : Option Value) (m₀ : Str → Option Value) : (fun y => if y = x then v else (fun y => if y = x then u else m₀ y) y) = fun y => if y = x then v else m₀ y := by
  funext y
  by_cases h : y = x <;> simp [h]
theorem sum_le_mul {l : List Nat} {b : Nat} (h : ∀ x ∈ l, x ≤ b) : l.sum ≤ l.length * b := by
  induction l with
  | nil => simp
  | cons a l ih =>
    have h1 := h a (.head _)
    have h2 := ih fun x hx => h x (.tail _ hx)
    rw [List.sum_cons, List.length_cons, Nat.add_mul, Nat.one_mul]; omega
theorem strsAre_set {vs : List Value} {ss : List Str} (h : StrsAre vs ss) : ∀ (i : Nat) (y : Str) (t : Tok), StrsAre (vs.set i (.str y t)) (ss.set i y) := by
  induction h with
  | nil => intro i y t; exact .nil
  | cons z u _ ih =>
    intro i y t
    cases i with
    | zero => exact .cons _ _ (by assumption)
    | succ i => exact .cons _ _ (ih i y t)

section
variable {prog : Program} {w : World} {A : Around} {E : Value → Shared → Prop} {s : Shared} {h₀ : Heap} {L D : Addr} {m : Str → Option Value} {rest : List (Addr × Obj)} {vs : List Value} {ss : List Str} {n : Nat}
theorem set_strs {k : Int} {t : Tok} {y : Str} {u : Tok} {Q : Unit → Shared → Prop} (hvs : StrsAre vs ss) (F : Fr h₀ L s.heap m) (N : News h₀ L s.heap ((D, W.listOf vs.toArray n) :: rest)) (hr : ∀ p ∈ rest, p.1 ≠ D) (h0 : 0 ≤ k) (hfit : k < 2 ^ 63) (hk : k < ss.length)
    (h : ∀ h' vs', StrsAre vs' (ss.set k.toNat y) → Fr h₀ L h' m → News h₀ L h' ((D, W.listOf vs'.toArray n) :: rest) → Q () { s with heap := h' }) : wpAny (model prog w) A (setItem (.ref D) (.int k t) (.str y u)) Q E s :=
  set_list F N hr h0 hfit (by rw [hvs.length]; exact hk) fun h' F' N' => h h' _ (strsAre_set hvs _ _ _) F' N'
theorem set_strs_neg {k : Int} {t : Tok} {y : Str} {u : Tok} {Q : Unit → Shared → Prop} (hvs : StrsAre vs ss) (F : Fr h₀ L s.heap m) (N : News h₀ L s.heap ((D, W.listOf vs.toArray n) :: rest)) (hr : ∀ p ∈ rest, p.1 ≠ D) (h0 : k < 0) (hfit : -(2 ^ 63) ≤ k) (hk : -(ss.length : Int) ≤ k)
    (h : ∀ h' vs', StrsAre vs' (ss.set (k + ss.length).toNat y) → Fr h₀ L h' m → News h₀ L h' ((D, W.listOf vs'.toArray n) :: rest) → Q () { s with heap := h' }) : wpAny (model prog w) A (setItem (.ref D) (.int k t) (.str y u)) Q E s :=
  set_list_neg F N hr h0 hfit (by rw [hvs.length]; exact hk) fun h' F' N' => h h' _ (by rw [hvs.length]; exact strsAre_set hvs _ _ _) F' N'
end

def Hid (P : Prop) : Prop := P
theorem Hid.mk {P : Prop} (h : P) : Hid P := h
theorem Hid.out {P : Prop} (h : Hid P) : P := h
theorem lookup_cons_if (y a : Str) (v : Value) (l : List (Str × Value)) : List.lookup y ((a, v) :: l) = if y = a then some v else List.lookup y l := by
  rw [List.lookup_cons]
  by_cases h : y = a
  · subst h; simp
  · have : (y == a) = false := by simpa using h
    rw [this, if_neg h]
theorem upd_new (x : Str) (m₀ : Str → Option Value) (h : m₀ x = none) : m₀ = fun y => if y = x then none else m₀ y := by
  funext y
  by_cases e : y = x
  · subst e; simp [h]
  · simp [e]

theorem range_small {a b : Int} (h1 : -1000000 ≤ a) (h2 : a ≤ 1000000) (h3 : -1000000 ≤ b) (h4 : b ≤ 1000000) : Builtin.Range.small a b 1 = true := by
  have fit : ∀ i : Int, -3000000 ≤ i → i ≤ 3000000 → Builtin.Range.rangeFitsLong i = true := by
    intro i h1 h2
    simp only [Builtin.Range.rangeFitsLong, Bool.and_eq_true, decide_eq_true_eq]
    omega
  simp only [Builtin.Range.small, rangeSize_nat, fit a (by omega) (by omega), fit b (by omega) (by omega), fit 1 (by omega) (by omega), fit ((b - a).toNat : Int) (by omega) (by omega), fit (b + (1 - 1)) (by omega) (by omega)]
  simp

def overs (cs : List Str) (u m₀ : Str → Option Value) (y : Str) : Option Value := match cs with
  | [] => m₀ y
  | c :: cs => if y = c then u c else overs cs u m₀ y
theorem overs_eq {cs : List Str} {m₁ m₀ : Str → Option Value} (h : ∀ y, y ∉ cs → m₁ y = m₀ y) : m₁ = overs cs m₁ m₀ := by
  funext y
  have key : ∀ cs' : List Str, (y ∉ cs' → m₁ y = m₀ y) → m₁ y = overs cs' m₁ m₀ y := by
    intro cs'
    induction cs' with
    | nil => intro h; exact h (by simp)
    | cons c cs' ih =>
      intro h
      show _ = if y = c then m₁ c else overs cs' m₁ m₀ y
      by_cases e : y = c
      · rw [if_pos e, e]
      · rw [if_neg e]; exact ih fun hn => h (by simp [e, hn])
  exact key cs (h y)
section
open PyProof.V PySem.Spec
variable {prog : Program} {w : World} {A : Around} {E : Value → Shared → Prop} {s : Shared} {env : Env} {h₀ : Heap} {x : Str} {body : List Stmt} {Q : Flow → Shared → Prop}
theorem iter_rangeK {r : Addr} {a₀ b₀ : Int} {t₀ u₀ v₀ : Tok} {m₀ : Str → Option Value} {news : List (Addr × Obj)} (n : Nat) (cs : List Str) (J : Nat → List (Addr × Obj) → Prop)
    (hh : A.handled = none) (hr : IsRange s.heap r a₀ b₀ 1 t₀ u₀ v₀) (hsmall : Builtin.Range.small a₀ b₀ 1 = true) (hn : Builtin.Range.rangeSize a₀ b₀ 1 = (n : Int)) (F : Fr h₀ env.locals s.heap m₀) (N : News h₀ env.locals s.heap news) (hj : J 0 news)
    (turn : ∀ i t u news₁ h tk I own, i < n → J i news₁ → (∀ p ∈ news₁, p.1 ≠ I) → (∀ p ∈ own, p.1 = I) → @LT.lt Nat _ I h.objs.size → Fr h₀ env.locals h (fun y => if y = x then some (.int (a₀ + (i : Int)) t) else overs cs u m₀ y) → News h₀ env.locals h (news₁ ++ own) →
      wpAny (model prog w) A (execs body env) (LoopStepV h₀ env.locals [I] own (fun m news => (∀ y, y ∉ x :: cs → m y = m₀ y) ∧ J (i + 1) news) { s with heap := h, toks := tk } (fun v s' => Q (.ret v) s') fun s' => Q .next s') E { s with heap := h, toks := tk })
    (done : ∀ u news₁ h tk, J n news₁ → Fr h₀ env.locals h (overs (x :: cs) u m₀) → News h₀ env.locals h news₁ → Q .next { s with heap := h, toks := tk }) :
    wpAny (model prog w) A (pyIter (.ref r)) (fun it s₂ => LoopAtV prog w A h₀ env x body Q E it s₂) E s := by
  refine iter_rangeJ (fun i m news => (∀ y, y ∉ x :: cs → m y = m₀ y) ∧ J i news) hh hr hsmall hn F N ⟨fun _ _ => rfl, hj⟩ ?_ ?_
  · rintro i t m₁ news₁ h tk I own hi ⟨hm, hJ⟩ hoff hown hlt F₁ N₁
    have e : (fun y => if y = x then some (Value.int (a₀ + (i : Int)) t) else m₁ y) = fun y => if y = x then some (Value.int (a₀ + (i : Int)) t) else overs cs m₁ m₀ y := by
      have e1 := overs_eq hm
      funext y
      by_cases hy : y = x
      · simp [hy]
      · simp only [if_neg hy]
        rw [e1]
        show (if y = x then m₁ x else overs cs m₁ m₀ y) = overs cs (overs (x :: cs) m₁ m₀) m₀ y
        rw [if_neg hy, ← e1]
    rw [e] at F₁
    exact turn i t m₁ news₁ h tk I own hi hJ hoff hown hlt F₁ N₁
  · rintro m₁ news₁ h tk ⟨hm, hJ⟩ F₁ N₁
    rw [overs_eq hm] at F₁
    exact done m₁ news₁ h tk hJ F₁ N₁
end
end Mine
namespace Mine
open PySem.Builtin PyProof.V PySem.Spec

theorem intsAre_of_filter {n : Nat} (pz : Nat → Bool) (p : Value → Bool) (hp : ∀ (i : Nat) t, p (.int i t) = pz i) {vs ys : List Value} (hlen : vs.length = n) (hP : ∀ (j : Nat) (v : Value), vs[j]? = some v → ∃ t, v = .int (j : Int) t)
    (hF : Paired (fun v y => y = v) (vs.filter p) ys) : IntsAre ys (((List.range n).filter pz).map fun (i : Nat) => (i : Int)) := by
  have e : ys = vs.filter p := by
    have : ∀ {a b : List Value}, Paired (fun v y => y = v) a b → b = a := by
      intro a b h
      induction h with
      | nil => rfl
      | cons h _ ih => rw [h, ih]
    exact this hF
  subst e
  clear hF
  have key : ∀ (l : List Value) (k : Nat), (∀ (j : Nat) (v : Value), l[j]? = some v → ∃ t, v = .int ((k + j : Nat) : Int) t) → IntsAre (l.filter p) (((List.range' k l.length).filter pz).map fun (i : Nat) => (i : Int)) := by
    intro l
    induction l with
    | nil => intro k _; exact .nil
    | cons v l ih =>
      intro k hl
      obtain ⟨t, rfl⟩ := hl 0 v rfl
      have ih' := ih (k + 1) fun j v hj => by
        obtain ⟨t, e⟩ := hl (j + 1) v (by simpa using hj)
        exact ⟨t, by rw [e, show k + (j + 1) = k + 1 + j by omega]⟩
      rw [List.length_cons, List.range'_succ, List.filter_cons, List.filter_cons]
      have e1 : p (.int ((k + 0 : Nat) : Int) t) = pz k := hp k t
      rw [e1]
      cases pz k with
      | true => exact .cons _ _ ih'
      | false => exact ih'
  have := key vs 0 fun j v hj => by obtain ⟨t, e⟩ := hP j v hj; exact ⟨t, by rw [e, Nat.zero_add]⟩
  rw [hlen, ← List.range_eq_range'] at this
  exact this

section
variable {prog : Program} {w : World} {A : Around} {E : Value → Shared → Prop} {s : Shared} {env : Env} {h₀ : Heap}
/-- [x for x in range(n) if c], stored -/
theorem asg_range_filter {x y : Str} {px py px' : Pos} {iter c : PySem.Expr} {scope : Scope} {cl : List (Str × Addr)} {pos spos : Pos} {Q : Flow → Shared → Prop} (pz : Nat → Bool) (n : Nat)
    (hh : A.handled = none)
    (hsw : swapsWith (.ListComp (.Name x px') [⟨.Name x px, iter, [c], 0⟩] scope pos) (some (.Name y py)) spos.line env = pure true)
    (hclos : closureFor scope env = pure cl) (hcell : ∀ z ∈ scope.names, z.2 ≠ .cell) (hkind : scope.kind = .function)
    (hnames : ∀ z ∈ scope.names, z.2 = .local → scope.names.lookup z.1 = some .local) (hx : scope.names.lookup x = some .local)
    (hy : env.kindOf y = some .local) (hp : (env.scope.kind == .class || (env.scope.kind == .module && env.locals != env.globals)) = false) (hd : (x == ("__debug__" : Str)) = false) (hn : n ≤ 1000000)
    (h : wpAny (model prog w) A (eval iter env) (fun xv s₁ => ∃ r t u v m news, xv = .ref r ∧ IsRange s₁.heap r 0 (n : Int) 1 t u v ∧ Fr h₀ env.locals s₁.heap m ∧ News h₀ env.locals s₁.heap news ∧
      (∀ C s₃ m₃ E' (i : Nat) t, i < n → s₃.heap.Ns C m₃ → m₃ x = some (.int (i : Int) t) → (∀ b o, s₁.heap.get? b = some o → s₃.heap.get? b = some o) →
        wpAny (model prog w) A (isTrue c (compEnvC scope cl C env) (eval c (compEnvC scope cl C env))) (fun ok s₄ => ok = pz i ∧ Keeps s₃ s₄) E' s₃) ∧
      (∀ D h' tk ys c, Fr h₀ env.locals h' (fun z => if z = y then some (.ref D) else m z) → News h₀ env.locals h' ((D, W.listOf (List.toArray ys) c) :: news) → (∀ p ∈ news, p.1 ≠ D) →
        IntsAre ys (((List.range n).filter pz).map fun (i : Nat) => (i : Int)) → Q .next { s₁ with heap := h', toks := tk })) E s)
    (hs : ∀ x, foldedSetIterable iter env x = pure x := by intro _; rfl) :
    wpAny (model prog w) A (exec (.Assign [.Name y py] (.ListComp (.Name x px') [⟨.Name x px, iter, [c], 0⟩] scope pos) spos) env) Q E s := by
  refine wpAny_Assign_ListComp_free (fun v => match v with | .int k _ => pz k.toNat | _ => false) (fun v y => y = v) hsw hclos hcell hkind hnames hx hy hp (wpAny_mono h (fun xv s₁ h₁ => ?_) fun _ _ e => e) hs
  obtain ⟨r, t, u, v, m, news, rfl, hr, F, N, ht, hQ⟩ := h₁
  have hsz : Builtin.Range.rangeSize 0 (n : Int) 1 = (n : Int) := by rw [rangeSize_nat]; omega
  refine wpAny_pyIter_range hr (range_small (by omega) (by omega) (by omega) (by omega)) ?_
  have W : Walks prog w A s₁.heap.objs.size [s₁.heap.objs.size] [s₁.heap.objs.size] n (fun i v => i < n ∧ ∃ t, v = .int (0 + i * 1) t)
      (fun i h => IsRangeIter h s₁.heap.objs.size (0 + (i : Nat) * 1) ((n : Int) - (i : Nat)) 1) := (Walks.range hh _ 0 1 n).bound
  have hLI : env.locals ≠ s₁.heap.objs.size := Nat.ne_of_lt F.ns.lt
  refine ⟨_, _, _, n, _, _, m, rfl, W, by rw [sizeLine_eq]; omega, (by show IsRangeIter _ _ _ _ _; rw [hsz]; simpa using Heap.get?_push_size _ rfl), ?_, ?_, F.ns.push _, ⟨?_, ?_⟩, ?_⟩
  · intro b hb; rw [List.mem_singleton.mp hb, Heap.size_push]; exact Nat.lt_succ_self _
  · intro hm; exact hLI (List.mem_singleton.mp hm)
  · rintro C i v s₃ m₃ E' hC ⟨hi, t', rfl⟩ hn₃ hx₃ hk _
    have e0 : (0 + (i : Int) * 1) = (i : Int) := by omega
    rw [e0] at hx₃ ⊢
    have hk' : ∀ b o, s₁.heap.get? b = some o → s₃.heap.get? b = some o := fun b o e => hk b o (fun hm => absurd (Heap.lt_size e) (by rw [List.mem_singleton.mp hm]; exact Nat.lt_irrefl _)) (Heap.get?_push_of_some _ e)
    refine wpAny_tests_one (wpAny_mono (ht C s₃ m₃ E' i t' hi hn₃ hx₃ hk') (fun ok s₄ hq => ⟨?_, hq.2⟩) fun _ _ e => e)
    rw [hq.1]; show pz i = pz (i : Int).toNat; rw [Int.toNat_natCast]
  · rintro C i v s₃ m₃ E' hC _ _ hn₃ hx₃ hk _
    have hkd : (compEnvC scope cl C env).kindOf x = some .local := lookup_relabel_local hx
    have hk3 : (compEnvC scope cl C env).scope.kind = .function := by simp [compEnvC, relabel, hkind]
    exact wpAny_Name (wpAny_loadName_local hk3 hkd hn₃ hx₃ ⟨rfl, ⟨s₃.heap, s₃.toks, rfl, fun _ _ e => e⟩⟩) hd
  · intro D h' tk ys vs hD hl hpl hlen hP hF hns hk
    obtain ⟨c, hpl⟩ := hpl
    have hk' : ∀ b o, b ≠ env.locals → s₁.heap.get? b = some o → h'.get? b = some o := fun b o hb e => hk b o hb (fun hm => absurd (Heap.lt_size e) (by rw [List.mem_singleton.mp hm]; exact Nat.lt_irrefl _)) (Heap.get?_push_of_some _ e)
    have hold : ∀ b o, s₁.heap.get? b = some o → b ≠ D := fun b o e hb => by
      have := Heap.get?_push_of_some { cls := .type "range_iterator", data := .fields #[rawInt 0, rawInt (Builtin.Range.rangeSize 0 (n : Int) 1), rawInt 1] } e
      rw [hb] at this
      rw [show (s₁.heap.push { cls := .type "range_iterator", data := .fields #[rawInt 0, rawInt (Builtin.Range.rangeSize 0 (n : Int) 1), rawInt 1] }).get? D = none from hD] at this
      cases this
    have hDL : D ≠ env.locals := fun e => by
      obtain ⟨oL, _, _, hoL, _⟩ := F.ns
      exact hold _ _ hoL e.symm
    have F' : Fr h₀ env.locals h' (fun z => if z = y then some (.ref D) else m z) := ⟨hns, fun b o e => hk' b o (Nat.ne_of_lt (Nat.lt_of_lt_of_le (Heap.lt_size e) F.above)) (F.keep b o e), F.above⟩
    refine hQ D h' tk ys.toList c F' ?_ (fun p hp e => hold _ _ (N p hp).1 e) (intsAre_of_filter pz _ (fun i t => by show pz (i : Int).toNat = pz i; rw [Int.toNat_natCast]) hlen (fun j v hj => by obtain ⟨_, t, e⟩ := hP j v hj; exact ⟨t, by rw [e]; congr 1; omega⟩) hF)
    intro p hp
    rcases List.mem_cons.mp hp with rfl | hp
    · refine ⟨hpl, hDL, ?_⟩
      cases q : h₀.get? D with
      | none => rfl
      | some o => exact absurd rfl (hold _ _ (F.keep _ _ q))
    · exact ⟨hk' _ _ (N p hp).2.1 (N p hp).1, (N p hp).2⟩
end
end Mine
set_option maxHeartbeats 8000000 in
open_top hd4 for PySem.Challenge.rw_kn0088_04
namespace Mine
open PySem.Builtin
theorem fillK {P : Prop} (h : PySem.Challenge.rw_kn0088_04 = PySem.Challenge.rw_kn0088_04 → hd4.heap_39 = hd4.heap_39 → P) : P := h rfl rfl

set_option maxHeartbeats 8000000 in
theorem escape_spec {prog : Program} {w : World} {mean : ExcName → Option Value} {mg mb : Str → Option Value} {A : Around} {s : Shared} {x : Str} {t : Tok} {Q E : Value → Shared → Prop}
    (C : Cx (hd4.heap_39 w.params) hd4.view_39 (looseW hd4.view_39 [Str.ofString "_special_chars_map"]) mean mg mb A s.heap 2) (hx : x.length ≤ 1000000)
    (hQ : ∀ h' tk tk', s.heap.StaysIn h' → Q (.str (esc x) tk) { s with heap := h', toks := tk' }) : wpAny (model prog w) A (call (.ref 26) [.str x t]) Q E s := by
  refine fillK ?_
  k_fill
  intro _ _
  refine fn_call C (by k_is) (by k_is) rfl (locs rfl) ?_
  intro L h₁ tk hF hN
  have X := C.K
  have T := C.T
  k_steps
  refine GM.of (.str x t) (typeIs_str _ _ _) PySem.F.slot_str_translate PySem.F.type_str_translate GM.noRef ?_
  k_steps
  have TT : TransTab prog w s.heap 16 := transTab_of (by decide) (X 16 _ (by k_is)) (by kernel_rfl)
  refine call_translate C.hh (TT.keep hF.keep) hx fun h' tk tk' st => ?_
  dsimp only
  exact hQ h' _ _ fun b o e => st b o (hF.keep b o e)
end Mine
namespace Mine
open PySem.Builtin

theorem leN {a b : Nat} (h : a ≤ b) : a ≤ b := h
theorem fr_but {h₀ h h' : Heap} {L : Addr} {m : Str → Option Value} {wr : List Addr} (hF : Fr h₀ L h m) (k : ∀ b o, b ∉ wr → h.get? b = some o → h'.get? b = some o) (hL : L ∉ wr) (hw : ∀ b ∈ wr, h₀.objs.size ≤ b) : Fr h₀ L h' m :=
  ⟨hF.ns.at' fun o e => k L o hL e, fun b o e => k b o (fun hb => absurd (Heap.lt_size e) (Nat.not_lt.mpr (hw b hb))) (hF.keep b o e), hF.above⟩
theorem fr_keep {h₀ h h' : Heap} {L : Addr} {m : Str → Option Value} (hF : Fr h₀ L h m) (k : ∀ b o, h.get? b = some o → h'.get? b = some o) : Fr h₀ L h' m :=
  ⟨hF.ns.at' fun o e => k L o e, fun b o e => k b o (hF.keep b o e), hF.above⟩
theorem news_keep {h₀ h h' : Heap} {L : Addr} {news : List (Addr × Obj)} (hN : News h₀ L h news) (k : ∀ b o, h.get? b = some o → h'.get? b = some o) : News h₀ L h' news :=
  fun p hp => ⟨k _ _ (hN p hp).1, (hN p hp).2⟩
theorem news_one {h₀ h : Heap} {L a : Addr} {o : Obj} (ho : h.get? a = some o) (hL : a ≠ L) (ha : h₀.objs.size ≤ a) : News h₀ L h [(a, o)] := by
  intro p hp
  rw [List.mem_singleton.mp hp]
  refine ⟨ho, hL, ?_⟩
  cases q : h₀.get? a with
  | none => rfl
  | some o' => exact absurd (Heap.lt_size q) (Nat.not_lt.mpr ha)

theorem strs_of_items {acc : Array Value} {ss : List Str} (h : ItemsOf (fun i v => ∃ x t, ss[i]? = some x ∧ v = .str x t) acc ss.length) : StrsAre acc.toList ss := by
  obtain ⟨hsz, hi⟩ := h
  obtain ⟨l⟩ := acc
  simp only [List.size_toArray] at hsz
  have hi' : ∀ (j : Nat) (v : Value), l[j]? = some v → ∃ x t, ss[j]? = some x ∧ v = .str x t := fun j v e => hi j v (by simpa using e)
  clear hi
  induction l generalizing ss with
  | nil => cases ss with | nil => exact .nil | cons y ss => simp at hsz
  | cons v l ih =>
    cases ss with
    | nil => simp at hsz
    | cons y ss =>
      obtain ⟨x, t, e1, e2⟩ := hi' 0 v rfl
      cases e1
      subst e2
      exact .cons _ _ (ih (by simpa using hsz) fun j v e => by simpa using hi' (j + 1) v (by simpa using e))

section
variable {prog : Program} {w : World} {A : Around} {E : Value → Shared → Prop} {s : Shared}
/-- list(map object) -/
theorem call_list_map {e tup it l : Addr} {f : Value} {items : Array Value} {nt : Nat} {base : Heap} (P : Nat → Value → Prop) {Q : Value → Shared → Prop} (hh : A.handled = none)
    (he : IsMap s.heap e tup f) (ht : s.heap.get? tup = some { cls := .type "tuple", data := .seq #[.ref it] nt }) (hit : s.heap.IsListIter it l 0) (hl : s.heap.IsList l items) (st : base.StaysIn s.heap)
    (h1 : e ≠ it) (h2 : tup ≠ it) (h3 : l ≠ it) (hb : base.objs.size ≤ it)
    (hf : ∀ i x (s : Shared) (Q : Value → Shared → Prop) (E : Value → Shared → Prop), items[i]? = some x → base.StaysIn s.heap → (∀ v h' tk, P i v → s.heap.StaysIn h' → Q v { s with heap := h', toks := tk }) → wpAny (model prog w) A.in1.in1.in1 (call f [x]) Q E s)
    (hQ : ∀ h' tk acc c, (∀ b o, b ∉ [it] → s.heap.get? b = some o → h'.get? b = some o) → h'.get? s.heap.objs.size = some { cls := .type "list", dict := none, data := .seq acc c, slots := #[] } → ItemsOf P acc items.size →
      Q (.ref s.heap.objs.size) { s with heap := h', toks := tk }) (hn : items.size ≤ sizeLine) :
    wpAny (model prog w) A (call (.type "list") [.ref e]) Q E s := by
  refine call_list_iter map_no_len map_no_hint (by decide) (by decide) (Walks_map1 (A := A.in1.in1) hh (base := base) e tup it l f items nt P h1 h2 h3 hb hf) (fun i h st => ⟨_, st.2.1, rfl⟩) ⟨st, he, ht, hit, hl⟩ ?_ (by simp) hQ hn
  intro b hb'
  simp only [List.mem_append, List.mem_cons, List.mem_range, List.not_mem_nil, or_false] at hb'
  obtain ⟨ol, hol, _⟩ := hl
  obtain ⟨oi, hoi, _⟩ := hit
  have z1 := Heap.lt_size he
  have z2 := Heap.lt_size ht
  have z3 := Heap.lt_size hol
  have z4 := Heap.lt_size hoi
  rcases hb' with (rfl | rfl | rfl | rfl) | hb'
  · exact z1
  · exact z2
  · exact z4
  · exact z3
  · exact Nat.lt_of_lt_of_le hb' (Nat.le_of_lt (Nat.lt_of_le_of_lt hb z4))
end

def starS : Str := Str.ofString "*"
def pieces (x : Str) : List Str := Txt.split x (Str.ofString "*")
def wrap (p : Str) : Str := Str.ofString "(?>.*?" ++ p ++ Str.ofString ")"
def dotStar (p : Str) : Str := Str.ofString ".*" ++ p
def stepL (ss : List Str) (i : Nat) : List Str := ss.mapIdx fun j p => if 1 ≤ j ∧ j ≤ i then wrap p else p
theorem stepL_length (ss : List Str) (i : Nat) : (stepL ss i).length = ss.length := by simp [stepL]
theorem stepL_zero (ss : List Str) : stepL ss 0 = ss := by
  apply List.ext_getElem?
  intro j
  rw [stepL, List.getElem?_mapIdx]
  cases ss[j]? with
  | none => rfl
  | some y => simp; omega
theorem stepL_get {ss : List Str} {i : Nat} {y : Str} (h : ss[i + 1]? = some y) : (stepL ss i)[i + 1]? = some y := by
  rw [stepL, List.getElem?_mapIdx, h]
  have : ¬ (i + 1 ≤ i) := by omega
  simp [this]
theorem stepL_set {ss : List Str} {i : Nat} {y : Str} (h : ss[i + 1]? = some y) : (stepL ss i).set (i + 1) (wrap y) = stepL ss (i + 1) := by
  apply List.ext_getElem?
  intro j
  rw [List.getElem?_set, stepL_length]
  by_cases e : i + 1 = j
  · subst e
    have := (List.getElem?_eq_some_iff.mp h).1
    rw [if_pos rfl, if_pos this, stepL, List.getElem?_mapIdx, h]; simp
  · rw [if_neg e]
    simp only [stepL, List.getElem?_mapIdx]
    cases ss[j]? with
    | none => rfl
    | some z =>
      have : (1 ≤ j ∧ j ≤ i) ↔ (1 ≤ j ∧ j ≤ i + 1) := by omega
      simp [this]
def lastL (ss : List Str) : List Str := ss.set (ss.length - 1) (Str.ofString ".*" ++ (ss[ss.length - 1]?).getD ⟨#[]⟩)
def tp (x : Str) : Str := Txt.join (Str.ofString "") (lastL (stepL ((pieces x).map esc) ((pieces x).length - 2)))
theorem pieces_count (x : Str) : (pieces x).length ≤ x.length + 1 := by
  have h := split_weight x (Str.ofString "*") (by decide)
  unfold pieces
  omega
theorem pieces_pos (x : Str) : 1 ≤ (pieces x).length := by
  have h := split_len x 42
  have e : Str.ofString "*" = ⟨#[42]⟩ := by decide
  unfold pieces
  rw [e]
  have : (0 : Int) ≤ cnt 42 x.cps.toList := by
    generalize x.cps.toList = l
    induction l with
    | nil => exact Int.le_refl _
    | cons n l ih => rw [cnt_cons]; split <;> omega
  omega
theorem esc_length (x : Str) : (esc x).length ≤ 2 * x.length := by
  have := esc_len_le x.cps.toList
  show (esc x).cps.size ≤ 2 * x.cps.size
  simpa [esc] using this
theorem wrap_length (x : Str) : (wrap x).length = x.length + 7 := by
  unfold wrap
  rw [Str.length_append, Str.length_append]
  have h1 : (Str.ofString "(?>.*?").length = 6 := by decide
  have h2 : (Str.ofString ")").length = 1 := by decide
  omega
theorem stepL_le {ss : List Str} {b : Nat} (h : ∀ y ∈ ss, y.length ≤ b) (i : Nat) : ∀ y ∈ stepL ss i, y.length ≤ b + 7 := by
  intro y hy
  obtain ⟨j, hj⟩ := List.mem_iff_getElem?.mp hy
  rw [stepL, List.getElem?_mapIdx] at hj
  cases hz : ss[j]? with
  | none => rw [hz] at hj; cases hj
  | some z =>
    rw [hz] at hj
    have hb := h z (List.mem_of_getElem? hz)
    simp only [Option.map_some, Option.some.injEq] at hj
    split at hj
    · rw [← hj, wrap_length]; omega
    · rw [← hj]; omega
local macro_rules | `(tactic| walk_at "my steps") => `(tactic| repeat' (first | (k_unfold; (try dsimp only)) | ((fail_if_success (with_reducible show wpAny _ _ (pyIter _) _ _ _)); (fail_if_success (with_reducible show Exists _)); (first | walk1 | (dsimp only; walk1)); (try dsimp only))))

set_option maxHeartbeats 8000000 in
theorem tp_spec {prog : Program} {w : World} {mean : ExcName → Option Value} {mg mb : Str → Option Value} {A : Around} {s : Shared} {x : Str} {t : Tok} {Q E : Value → Shared → Prop}
    (C : Cx (hd4.heap_39 w.params) hd4.view_39 (looseW hd4.view_39 [Str.ofString "_special_chars_map"]) mean mg mb A s.heap 10) (hx : x.length ≤ 1000)
    (hQ : ∀ h' tk tk', s.heap.StaysIn h' → Q (.str (tp x) tk) { s with heap := h', toks := tk' }) : wpAny (model prog w) A (call (.ref 33) [.str x t]) Q E s := by
  refine fillK ?_
  k_fill
  intro _ _
  refine fn_call C (by k_is) (by k_is) rfl (locs rfl) ?_
  intro L h₁ tk hF hN
  have X := C.K
  have T := C.T
  walk_at "my steps"
  rename_i l hm k el sl hlen hIL hF' hN'
  refine call_map_list hIL fun h2 he ht hit hsz hk => ?_
  try dsimp only
  walk_at "my steps"
  try dsimp only at hsz hk hit ht he hIL
  have zL : @LT.lt Nat _ L hm.objs.size := hF'.ns.lt
  have zA : @LE.le Nat _ s.heap.objs.size L := hF'.above
  have zl : @LT.lt Nat _ h₁.objs.size hm.objs.size := by obtain ⟨o, ho, _⟩ := hIL; exact Heap.lt_size ho
  have hpl : pieces x = l.map (·.1) := el.symm
  refine call_list_map (base := s.heap) (fun i v => ∃ x' t, ((pieces x).map esc)[i]? = some x' ∧ v = .str x' t) C.hh he ht hit (hIL.at fun o e => hk _ o e) (fun b o e => hk b o (hF'.keep b o e)) (by refine neN ?_; omega) (by refine neN ?_; omega) (by refine neN ?_; omega) (leN (by omega)) ?_ ?_ ?_
  · intro i xv s1 Q1 E1 hi st1 hret
    have hi' : (strValues l)[i]? = some xv := by simpa using hi
    unfold strValues at hi'
    rw [List.getElem?_map] at hi'
    cases hp : l[i]? with
    | none => rw [hp] at hi'; cases hi'
    | some p =>
      rw [hp] at hi'
      cases hi'
      have hpm : p.1 ∈ l.map (·.1) := List.mem_map.mpr ⟨p, List.mem_of_getElem? hp, rfl⟩
      refine escape_spec ((((C.deeper _).in1.in1.in1).keep st1).le (by omega)) (Nat.le_trans (hlen _ hpm) (by omega)) fun h' tk tk' st => ?_
      exact hret _ h' tk' ⟨esc p.1, tk, by rw [hpl]; simp [hp], rfl⟩ st
  · intro h3 tk3 acc c3 hk3 hS3 hacc
    try dsimp only at hS3 ⊢
    have hss : StrsAre acc.toList ((pieces x).map esc) := strs_of_items (by
      have e : (strValues l).toArray.size = ((pieces x).map esc).length := by rw [hpl]; simp [strValues]
      rw [← e]; exact hacc)
    have F3 : Fr s.heap L h3 _ := fr_but (wr := [hm.objs.size]) (fr_keep hF' hk) hk3 (by rw [List.mem_singleton]; refine neN ?_; omega) (by intro b hb; rw [List.mem_singleton.mp hb]; exact leN (by omega))
    have N3 : News s.heap L h3 [(h2.objs.size, { cls := .type "list", dict := none, data := .seq acc c3, slots := #[] })] := news_one hS3 (by refine neN ?_; omega) (leN (by omega))
    clear hk3 hk hF' hN'
    have hlp : ((pieces x).map esc).length = acc.size := by rw [← hss.length, Array.length_toList]
    have hpn : (pieces x).length = acc.size := by rw [← hlp, List.length_map]
    have hssK := Hid.mk hss
    have hlacc : acc.size ≤ 1001 := by have := pieces_count x; omega
    have hlen1 : 1 ≤ acc.size := by have := pieces_pos x; omega
    have hel : ∀ y ∈ (pieces x).map esc, y.length ≤ 2000 := by
      intro y hy
      obtain ⟨z, hz, rfl⟩ := List.mem_map.mp hy
      have h1 := hlen z (by rw [← hpl]; exact hz)
      have h2 := esc_length z
      omega
    walk_at "my steps"
    rename_i h5 tk5 t5 u5 v5 hr5 F5 N5 k5

    have em := upd_new (Str.ofString "i") (fun y => if y = Str.ofString "parts" then some (Value.ref h2.objs.size) else List.lookup y [(Str.ofString "path", Value.str x t)]) rfl
    refine iter_rangeJ (n := acc.size - 2) (fun i m news => ∃ vs c u, m = (fun y => if y = Str.ofString "i" then u else (fun y => if y = Str.ofString "parts" then some (Value.ref h2.objs.size) else List.lookup y [(Str.ofString "path", Value.str x t)]) y) ∧ news = [(h2.objs.size, W.listOf (List.toArray vs) c)] ∧ StrsAre vs (stepL ((pieces x).map esc) i)) C.hh hr5 ?small ?size F5 N5 ⟨acc.toList, c3, none, em, by simp [W.listOf], by rw [stepL_zero]; exact hssK.out⟩ ?_ ?_
    case small => exact range_small (by omega) (by omega) (by rw [hlp]; omega) (by rw [hlp]; omega)
    case size => rw [rangeSize_nat, hlp]; omega
    · rintro i ti m₁ news₁ h6 tk6 I own hi ⟨vs, c, u, rfl, rfl, hvs⟩ hoff hown hI F6 N6
      rw [upd_upd] at F6
      try dsimp only
      walk_at "my steps"
      have hvl : vs.length = acc.size := by rw [hvs.length, stepL_length, hlp]
      obtain ⟨y, hy⟩ : ∃ y, ((pieces x).map esc)[i + 1]? = some y := ⟨_, List.getElem?_eq_getElem (by rw [hlp]; omega)⟩
      have hyl : y.length ≤ 2000 := hel y (List.mem_of_getElem? hy)
      obtain ⟨tv, hv⟩ := hvs.get (i + 1) y (stepL_get hy)
      refine item_list (News.isList (by k_asm) (by k_mem)) (by omega) (by omega) (by rw [show (1 + (i : Int)).toNat = i + 1 by omega]; exact hv) ?_
      walk_at "my steps"
      have hown' : ∀ p ∈ own, p.1 ≠ h2.objs.size := fun p hp e => hoff _ (.head _) ((hown p hp).symm.trans e).symm
      refine set_strs hvs F6 N6 hown' (by omega) (by omega) (by rw [stepL_length, hlp]; omega) fun h7 vs7 hvs7 F7 N7 => ?_
      rw [show (1 + (i : Int)).toNat = i + 1 by omega] at hvs7
      try dsimp only
      walk_at "my steps"
      refine LoopStepU.intro F7 (fun p hp => N7 p ?_) ?_ ⟨vs7, c, _, rfl, rfl, ?_⟩
      · rcases List.mem_append.mp hp with hp | hp
        · exact .tail _ hp
        · rw [List.mem_singleton.mp hp]; exact .head _
      · intro p hp
        rw [List.mem_singleton.mp hp, List.mem_singleton]
        exact hoff (h2.objs.size, W.listOf vs.toArray c) (.head _)
      · rw [← stepL_set hy]; exact hvs7
    · rintro m₁ news₁ h6 tk6 ⟨vs, c, u, rfl, rfl, hvs⟩ F6 N6
      try dsimp only
      walk_at "my steps"
      have hvl : vs.length = acc.size := by rw [hvs.length, stepL_length, hlp]
      obtain ⟨y, hy⟩ : ∃ y, (stepL ((pieces x).map esc) (acc.size - 2))[acc.size - 1]? = some y := ⟨_, List.getElem?_eq_getElem (by rw [stepL_length, hlp]; omega)⟩
      have hyl : y.length ≤ 2010 := by
        have := stepL_le hel (acc.size - 2) y (List.mem_of_getElem? hy)
        omega
      obtain ⟨tv, hv⟩ := hvs.get _ y hy
      refine item_list_neg (News.isList (by k_asm) (by k_mem)) (by omega) (by omega) (by omega) (by rw [hvl, show (-1 + (acc.size : Int)).toNat = acc.size - 1 by omega]; exact hv) ?_
      walk_at "my steps"
      refine set_strs_neg hvs F6 N6 (fun _ h => nomatch h) (by omega) (by omega) (by rw [stepL_length, hlp]; omega) fun h7 vs7 hvs7 F7 N7 => ?_
      rw [stepL_length, hlp, show (-1 + (acc.size : Int)).toNat = acc.size - 1 by omega] at hvs7
      try dsimp only
      walk_at "my steps"
      have hfin : (stepL ((pieces x).map esc) (acc.size - 2)).set (acc.size - 1) (Str.ofString ".*" ++ y) = lastL (stepL ((pieces x).map esc) ((pieces x).length - 2)) := by
        unfold lastL
        rw [stepL_length, hlp, hpn, hy]; rfl
      rw [hfin] at hvs7
      refine join_list (News.isList N7 (.head _)) hvs7 ?_ fun t' k => ?_
      · have hb : ∀ z ∈ (lastL (stepL ((pieces x).map esc) ((pieces x).length - 2))).map (·.length), z ≤ 2012 := by
          intro z hz
          obtain ⟨v, hv', rfl⟩ := List.mem_map.mp hz
          rw [← hfin] at hv'
          rcases List.mem_or_eq_of_mem_set hv' with h1 | rfl
          · have := stepL_le hel _ v h1; omega
          · rw [Str.length_append]
            have : (Str.ofString ".*").length = 2 := by decide
            omega
        have h1 := sum_le_mul hb
        have h2 : (lastL (stepL ((pieces x).map esc) ((pieces x).length - 2))).length = acc.size := by rw [lastL, List.length_set, stepL_length, hlp]
        have h3 : (Str.ofString "").length = 0 := by decide
        rw [List.length_map, h2] at h1
        rw [h2, h3]
        have : acc.size * 2012 ≤ 1001 * 2012 := Nat.mul_le_mul_right _ hlacc
        omega
      · exact hQ _ _ _ fun b o e => F7.keep b o e
  · rw [List.size_toArray, strValues, List.length_map, ← List.length_map (f := (·.1)), ← hpl, sizeLine_eq]
    have := pieces_count x
    omega
end Mine
namespace Mine
open PySem.Builtin

theorem item_star {f : Str} {i : Nat} (hi : i < f.length) : (Txt.item f (i : Int) == Str.ofString "*") = (f.cps[i]? == some 42) := by
  have hc : f.cps[i]? = some f.cps[i] := Array.getElem?_eq_getElem hi
  rw [item_meets (by omega) (by rw [Int.toNat_natCast]; exact hc), hc, show Str.ofString "*" = ⟨#[42]⟩ by decide]
  by_cases h : f.cps[i] = 42
  · rw [h]; rfl
  · have h1 : ((⟨#[f.cps[i]]⟩ : Str) == ⟨#[42]⟩) = false := by
      rw [beq_eq_false_iff_ne]; intro e; exact h (by simpa using e)
    rw [h1]; symm; rw [beq_eq_false_iff_ne]; intro e; exact h (by simpa using e)
def posns (f : Str) : List Int := ((List.range f.length).filter fun i => f.cps[i]? == some 42).map fun (i : Nat) => (i : Int)
theorem posns_len (f : Str) : (posns f).length ≤ f.length := by
  unfold posns
  rw [List.length_map]
  exact Nat.le_trans (List.length_filter_le _ _) (by simp)

theorem posns_mem {f : Str} {a : Int} (h : a ∈ posns f) : 0 ≤ a ∧ a < f.length := by
  unfold posns at h
  obtain ⟨i, hi, rfl⟩ := List.mem_map.mp h
  have := List.mem_range.mp (List.mem_filter.mp hi).1
  omega
theorem ints_last {vs : List Value} {ns : List Int} {a : Int} (h : IntsAre vs ns) (hl : ns.getLast? = some a) : ∃ t, vs[(-1 + (vs.length : Int)).toNat]? = some (.int a t) := by
  rw [List.getLast?_eq_getElem?] at hl
  have hlt := (List.getElem?_eq_some_iff.mp hl).1
  have e := h.length
  obtain ⟨t, ht⟩ := h.get (ns.length - 1) a hl
  exact ⟨t, by rw [show (-1 + (vs.length : Int)).toNat = ns.length - 1 by omega]; exact ht⟩
theorem ints_head {vs : List Value} {ns : List Int} {a : Int} (h : IntsAre vs ns) (hl : ns.head? = some a) : ∃ t, vs[(0 : Int).toNat]? = some (.int a t) := by
  rw [List.head?_eq_getElem?] at hl
  exact h.get 0 a hl
def joinS (f g : Str) (st mo : Bool) (a b c : Int) : Str :=
  if mo = true then
    if st = true then
      if (Txt.slice g (some (c + 1)) (some (c + 2)) == Str.ofString "?") = true then
        Txt.slice f none (some (a - 1)) ++ Str.ofString "(?>.*?" ++ Txt.slice f (some (a + 1)) none ++ Txt.slice g none (some (c - 4)) ++ Str.ofString ")" ++ Txt.slice g (some (c - 4)) none
      else
        Txt.slice f none (some (a - 1)) ++ Str.ofString "(?>.*?" ++ Txt.slice f (some (a + 1)) none ++ Txt.slice g none (some (c - 1)) ++ Str.ofString ")" ++ Txt.slice g (some (c - 1)) none
    else Txt.slice f (some (a + 1)) none ++ g
  else f ++ Txt.slice g (some (b + 1)) none

section
variable {f g : Str} {st mo : Bool} {a b c : Int}
theorem joinS_1 (h1 : mo = true) (h2 : st = true) (h3 : (Txt.slice g (some (c + 1)) (some (c + 2)) == Str.ofString "?") = true) : joinS f g st mo a b c =
    Txt.slice f none (some (a - 1)) ++ Str.ofString "(?>.*?" ++ Txt.slice f (some (a + 1)) none ++ Txt.slice g none (some (c - 4)) ++ Str.ofString ")" ++ Txt.slice g (some (c - 4)) none := by
  unfold joinS; rw [if_pos h1, if_pos h2, if_pos h3]
theorem joinS_2 (h1 : mo = true) (h2 : st = true) (h3 : (Txt.slice g (some (c + 1)) (some (c + 2)) == Str.ofString "?") = false) : joinS f g st mo a b c =
    Txt.slice f none (some (a - 1)) ++ Str.ofString "(?>.*?" ++ Txt.slice f (some (a + 1)) none ++ Txt.slice g none (some (c - 1)) ++ Str.ofString ")" ++ Txt.slice g (some (c - 1)) none := by
  unfold joinS; rw [if_pos h1, if_pos h2, if_neg (by rw [h3]; exact Bool.false_ne_true)]
theorem joinS_3 (h1 : mo = true) (h2 : st = false) : joinS f g st mo a b c = Txt.slice f (some (a + 1)) none ++ g := by
  unfold joinS; rw [if_pos h1, if_neg (by rw [h2]; exact Bool.false_ne_true)]
theorem joinS_4 (h1 : mo = false) : joinS f g st mo a b c = f ++ Txt.slice g (some (b + 1)) none := by
  unfold joinS; rw [if_neg (by rw [h1]; exact Bool.false_ne_true)]
end

local macro_rules | `(tactic| walk_at "subscriptTail Name UnaryOp ref int") => `(tactic| (refine item_list_neg (News.isList (by k_asm) (by k_mem)) (by omega) (by omega) (by omega) (by assumption) ?_))
local macro_rules | `(tactic| walk_at "subscriptTail Name Constant ref int") => `(tactic| (refine item_list (News.isList (by k_asm) (by k_mem)) (by omega) (by omega) (by assumption) ?_))
local macro_rules | `(tactic| walk_at "my steps") => `(tactic| repeat' (first | (k_unfold; (try dsimp only)) | ((fail_if_success (with_reducible show wpAny _ _ (pyIter _) _ _ _)); (fail_if_success (with_reducible show Exists _)); (first | walk1 | (dsimp only; walk1)); (try dsimp only))))



set_option maxHeartbeats 8000000 in
theorem joined_spec {prog : Program} {w : World} {mean : ExcName → Option Value} {mg mb : Str → Option Value} {A : Around} {s : Shared} {f g : Str} {t u : Tok} {st mo : Bool} {Q E : Value → Shared → Prop}
    (C : Cx (hd4.heap_39 w.params) hd4.view_39 (looseW hd4.view_39 [Str.ofString "_special_chars_map"]) mean mg mb A s.heap 10) (hf : f.length ≤ 10000) (hg : g.length ≤ 10000) {a b c : Int} (ha : (posns f).getLast? = some a) (hb : (posns g).getLast? = some b) (hc : (posns g).head? = some c)
    (hQ : ∀ h' tk tk', s.heap.StaysIn h' → Q (.str (joinS f g st mo a b c) tk) { s with heap := h', toks := tk' }) : wpAny (model prog w) A (call (.ref 38) [.str f t, .str g u, .bool st, .bool mo]) Q E s := by
  refine fillK ?_
  k_fill
  intro _ _
  refine' fn_callC C ?k1 ?k2 ?k3 ?k4 ?k5 ?_ ?k6 ?k7 ?k8
  case k1 => k_is
  case k2 => k_is
  case k3 => exact rfl
  case k4 => exact rfl
  case k5 => decide +kernel
  case k6 => exact rfl
  case k7 => exact rfl
  case k8 => exact rfl
  intro L h₁ tk cells hLs hF hN hY
  have X := C.K
  have T := C.T
  k_cells hY
  rename_i o2 o1 d2 d1
  replace d1 : o1.data = .cell (some (.str f t)) := d1.trans (congrArg Data.cell (by kernel_rfl))
  replace d2 : o2.data = .cell (some (.str g u)) := d2.trans (congrArg Data.cell (by kernel_rfl))
  replace hF : Fr s.heap L h₁ (fun y => if y = Str.ofString "more" then some (.bool mo) else if y = Str.ofString "starred" then some (.bool st) else none) := by
    refine Eq.mp (congrArg (Fr s.heap L h₁) ?_) hF
    kernel_rfl
  walk1
  refine' asg_range_filter (h₀ := s.heap) (fun i => f.cps[i]? == some 42) f.length C.hh ?q1 ?q2 ?q3 ?q4 ?q5 ?q6 ?q7 ?q8 ?q9 ?q10 ?_ ?q11
  case q1 => exact rfl
  case q2 => exact rfl
  case q3 => decide
  case q4 => exact rfl
  case q5 => decide +kernel
  case q6 => exact rfl
  case q7 => exact rfl
  case q8 => exact rfl
  case q9 => decide +kernel
  case q10 => omega
  case q11 => intro _; rfl
  walk_at "my steps"
  rename_i h2 tk2 t2 u2 v2 hr2 hF2 hN2 hk2
  dsimp only at hr2
  refine ⟨_, _, _, _, _, _, rfl, hr2, hF2, hN2, ?_, ?_⟩
  · intro C3 s3 m3 E3 i t3 hi hn3 hx3 hk3
    walk1
    walk1
    refine wpAny_Name (wpAny_loadName_cell rfl rfl rfl ⟨o1, hk3 _ _ (hN2 _ (.tail _ (.head _))).1, d1⟩ ?_) (by decide)
    refine wpAny_Name (wpAny_loadName_local rfl rfl hn3 hx3 ?_) (by decide)
    walk1
    walk1
    walk1
    walk1
    exact ⟨item_star hi, _, _, rfl, fun _ _ e => e⟩
  · intro D h4 tk4 ys c4 hF4 hN4 hD hys
    try dsimp only
    walk_at "my steps"
    refine' asg_range_filter (h₀ := s.heap) (fun i => g.cps[i]? == some 42) g.length C.hh ?q1 ?q2 ?q3 ?q4 ?q5 ?q6 ?q7 ?q8 ?q9 ?q10 ?_ ?q11
    case q1 => exact rfl
    case q2 => exact rfl
    case q3 => decide
    case q4 => exact rfl
    case q5 => decide +kernel
    case q6 => exact rfl
    case q7 => exact rfl
    case q8 => exact rfl
    case q9 => decide +kernel
    case q10 => omega
    case q11 => intro _; rfl
    walk_at "my steps"
    rename_i h5 tk5 t5 u5 v5 hr5 hF5 hN5 hk5
    dsimp only at hr5
    refine ⟨_, _, _, _, _, _, rfl, hr5, hF5, hN5, ?_, ?_⟩
    · intro C3 s3 m3 E3 i t3 hi hn3 hx3 hk3
      walk1
      walk1
      refine wpAny_Name (wpAny_loadName_cell rfl rfl rfl ⟨o2, hk3 _ _ (hN5 _ (.tail _ (.head _))).1, d2⟩ ?_) (by decide)
      refine wpAny_Name (wpAny_loadName_local rfl rfl hn3 hx3 ?_) (by decide)
      walk1
      walk1
      walk1
      walk1
      exact ⟨item_star hi, _, _, rfl, fun _ _ e => e⟩
    · intro D2 h7 tk7 zs c7 hF7 hN7 hD2 hzs
      have lf : 0 < ys.length := by rw [hys.length]; exact List.length_pos_iff.mpr fun e => by unfold posns at ha; rw [e] at ha; cases ha
      have lg : 0 < zs.length := by rw [hzs.length]; exact List.length_pos_iff.mpr fun e => by unfold posns at hb; rw [e] at hb; cases hb
      have hu1 : (A.deeper (envOfC (Str.ofString "_law_joined") default L 38 (Value.ref 37))).units < cLine := by have := C.un; show A.units + 3 < _; omega
      obtain ⟨ta, hya⟩ := ints_last hys ha
      obtain ⟨tb, hzb⟩ := ints_last hzs hb
      obtain ⟨tc, hzc⟩ := ints_head hzs hc
      have la : 0 ≤ a ∧ a < f.length := posns_mem (List.mem_of_getLast? ha)
      have lb : 0 ≤ b ∧ b < g.length := posns_mem (List.mem_of_getLast? hb)
      have lc : 0 ≤ c ∧ c < g.length := posns_mem (List.mem_of_head? hc)
      clear hys hzs ha hb hc
      try dsimp only
      walk_at "my steps"
      refine PySem.SeqAt.eq_list_lengthsAt (News.isList (by k_asm) (by k_mem)) (News.isList (by k_asm) (by k_mem)) (by rw [bne_iff_ne]; simp only [List.size_toArray, List.length_nil]; omega) hu1 ?_
      try dsimp only
      walk_at "my steps"
      refine PySem.SeqAt.eq_list_lengthsAt (News.isList (by k_asm) (by k_mem)) (News.isList (by k_asm) (by k_mem)) (by rw [bne_iff_ne]; simp only [List.size_toArray, List.length_nil]; omega) hu1 ?_
      try dsimp only
      walk_at "my steps"
      all_goals (try dsimp only)
      · rw [← joinS_1 (st := st) (mo := mo) (b := b) (by assumption) (by assumption) (by assumption)]
        exact hQ _ _ _ (Fr.keep (by assumption))
      · rw [← joinS_2 (st := st) (mo := mo) (b := b) (by assumption) (by assumption) (by assumption)]
        exact hQ _ _ _ (Fr.keep (by assumption))
      · rw [← joinS_3 (st := st) (mo := mo) (b := b) (c := c) (by assumption) (by assumption)]
        exact hQ _ _ _ (Fr.keep (by assumption))
      · rw [← joinS_4 (st := st) (mo := mo) (a := a) (c := c) (by assumption)]
        exact hQ _ _ _ (Fr.keep (by assumption))
end Mine
namespace Mine

def spl : List Nat → List (List Nat)
  | [] => [[]]
  | c :: r => if c = 42 then [] :: spl r else match spl r with
    | p :: ps => (c :: p) :: ps
    | [] => [[c]]
theorem spl_cons (c : Nat) (r : List Nat) : spl (c :: r) = if c = 42 then [] :: spl r else match spl r with
    | p :: ps => (c :: p) :: ps
    | [] => [[c]] := rfl
theorem spl_ne (l : List Nat) : spl l ≠ [] := by
  cases l with
  | nil => simp [spl]
  | cons c r => unfold spl; split; · simp
                · split <;> simp
theorem spl_free : ∀ l : List Nat, ∀ p ∈ spl l, 42 ∉ p
  | [], p, h => by simp [spl] at h; subst h; simp
  | c :: r, p, h => by
    have ih := spl_free r
    unfold spl at h
    split at h
    · rcases List.mem_cons.mp h with rfl | h
      · simp
      · exact ih p h
    · rename_i hc
      split at h
      · rename_i q qs hq
        rcases List.mem_cons.mp h with rfl | h
        · have := ih q (by rw [hq]; exact .head _)
          simp only [List.mem_cons, not_or]; exact ⟨fun e => hc e.symm, this⟩
        · exact ih p (by rw [hq]; exact .tail _ h)
      · rcases List.mem_cons.mp h with rfl | h
        · simp; exact fun e => hc e.symm
        · cases h
theorem spl_of_free : ∀ {l : List Nat}, 42 ∉ l → spl l = [l]
  | [], _ => rfl
  | c :: r, h => by
    have h1 : c ≠ 42 := fun e => h (by simp [e])
    have h2 := spl_of_free (l := r) fun e => h (.tail _ e)
    unfold spl
    rw [if_neg h1, h2]
/-- two rows of pieces, glued -/
def glue : List (List Nat) → List (List Nat) → List (List Nat)
  | [], g => g
  | [p], g => match g with | q :: gs => (p ++ q) :: gs | [] => [p]
  | p :: p' :: ps, g => p :: glue (p' :: ps) g
theorem glue_cons {p : List Nat} {ps : List (List Nat)} (h : ps ≠ []) (g : List (List Nat)) : glue (p :: ps) g = p :: glue ps g := by
  cases ps with
  | nil => exact absurd rfl h
  | cons q qs => rfl
theorem spl_append : ∀ a b : List Nat, spl (a ++ b) = glue (spl a) (spl b)
  | [], b => by
    show spl b = glue [[]] (spl b)
    have := spl_ne b
    cases h : spl b with
    | nil => exact absurd h this
    | cons q qs => simp [glue]
  | c :: r, b => by
    have ih := spl_append r b
    show spl (c :: (r ++ b)) = _
    rw [spl_cons, spl_cons]
    by_cases hc : c = 42
    · rw [if_pos hc, if_pos hc, ih, glue_cons (spl_ne r)]
    · rw [if_neg hc, if_neg hc, ih]
      cases hr : spl r with
      | nil => exact absurd hr (spl_ne r)
      | cons p ps =>
        dsimp only
        cases ps with
        | nil =>
          have := spl_ne b
          cases hb : spl b with
          | nil => exact absurd hb this
          | cons q qs => simp [glue]
        | cons p' ps => simp [glue]
def joinStar : List (List Nat) → List Nat
  | [] => []
  | [p] => p
  | p :: q :: r => p ++ 42 :: joinStar (q :: r)
theorem spl_join : ∀ {ps : List (List Nat)}, ps ≠ [] → (∀ p ∈ ps, 42 ∉ p) → spl (joinStar ps) = ps
  | [], h, _ => absurd rfl h
  | [p], _, h => spl_of_free (h p (.head _))
  | p :: q :: r, _, h => by
    have ih := spl_join (ps := q :: r) (by simp) fun x hx => h x (.tail _ hx)
    show spl (p ++ 42 :: joinStar (q :: r)) = _
    rw [spl_append, spl_of_free (h p (.head _))]
    have : spl (42 :: joinStar (q :: r)) = [] :: spl (joinStar (q :: r)) := by rw [spl, if_pos rfl]
    rw [this, ih]
    simp [glue]

def E (l : List Nat) : List Nat := l.flatMap esc1
theorem E_append (a b : List Nat) : E (a ++ b) = E a ++ E b := by simp [E]
theorem E_free {l : List Nat} (h : 42 ∉ l) : 42 ∉ E l := by
  unfold E
  intro hm
  obtain ⟨c, hc, hm⟩ := List.mem_flatMap.mp hm
  unfold esc1 at hm
  split at hm
  · simp at hm; exact h (hm ▸ hc)
  · simp at hm; exact h (hm ▸ hc)
theorem E_head {l : List Nat} {c : Nat} (h : (E l)[0]? = some c) : c ≠ 63 := by
  cases l with
  | nil => cases h
  | cons a l =>
    unfold E at h
    rw [List.flatMap_cons] at h
    unfold esc1 at h
    split at h
    · simp at h; omega
    · rename_i hs
      simp at h
      intro e
      rw [← h] at e
      rw [e] at hs
      exact hs (by decide)
theorem E_len (l : List Nat) : (E l).length ≤ 2 * l.length := esc_len_le l
def opn : List Nat := [40, 63, 62, 46, 42, 63]
def tailP : List (List Nat) → List Nat
  | [] => []
  | [q] => [46, 42] ++ E q
  | q :: r :: rs => opn ++ E q ++ [41] ++ tailP (r :: rs)
def tpP : List (List Nat) → List Nat
  | [] => []
  | [p] => [46, 42] ++ E p
  | p :: q :: r => E p ++ tailP (q :: r)
def tpl (l : List Nat) : List Nat := tpP (spl l)

end Mine
namespace Mine
open PySem.Builtin PySem.Builtin.Str

abbrev tl (x : Str) : List Nat := x.cps.toList
theorem str_ext {x y : Str} (h : tl x = tl y) : x = y := by
  obtain ⟨⟨a⟩⟩ := x; obtain ⟨⟨b⟩⟩ := y
  have : a = b := h
  rw [this]
theorem tl_append (x y : Str) : tl (x ++ y) = tl x ++ tl y := by
  show (x ++ y).cps.toList = _
  rw [Str.cps_append]; simp
theorem tl_length (x : Str) : (tl x).length = x.length := by simp [tl, PySem.Str.length]

theorem slice_from_tl {x : Str} {i : Int} (h0 : 0 ≤ i) (h1 : i ≤ (tl x).length) : tl (Txt.slice x (some i) none) = (tl x).drop i.toNat := by
  rw [slice_from_eq h0 (by rw [← tl_length]; exact h1) rfl]
  show (((tl x).drop i.toNat).take _).toArray.toList = _
  rw [List.take_of_length_le]
  rw [List.length_drop, ← tl_length]; omega
theorem slice_to_tl {x : Str} {j : Int} (h0 : 0 ≤ j) (h1 : j ≤ (tl x).length) : tl (Txt.slice x none (some j)) = (tl x).take j.toNat := by
  rw [eq_of_beq (slice_closes_toL h0 (by rw [← tl_length]; exact h1))]
  simp
theorem slice_mid_tl {x : Str} {i j : Int} (h0 : 0 ≤ i) (h1 : i ≤ (tl x).length) (h2 : i ≤ j) : tl (Txt.slice x (some i) (some j)) = ((tl x).drop i.toNat).take (j - i).toNat := by
  by_cases hj : j ≤ x.length
  · rw [eq_of_beq (slice_closesL h0 h2 hj)]
  · have e : Txt.slice x (some i) (some j) = Txt.slice x (some i) (some (x.length : Int)) := by
      have : strSliceIndices (some i) (some j) 1 x.length = strSliceIndices (some i) (some (x.length : Int)) 1 x.length := by
        have a0 : ¬ i < 0 := by omega
        have a1 : ¬ j < 0 := by omega
        have a2 : ¬ ((x.length : Int) < 0) := by omega
        have a3 : (1 : Int) > 0 := by decide
        have a4 : (x.length : Int) ≤ j := by omega
        simp only [strSliceIndices, a0, a1, a2, a3, if_false, if_true, Int.min_eq_right a4, Int.min_self]
      unfold Txt.slice
      rw [this]
    rw [tl_length] at h1
    rw [e, eq_of_beq (slice_closesL h0 h1 (Int.le_refl _))]
    show (((tl x).drop i.toNat).take _).toArray.toList = _
    rw [List.take_of_length_le, List.take_of_length_le]
    · rw [List.length_drop, tl_length]; omega
    · rw [List.length_drop, tl_length]; omega

-- the places of the stars
def posL (l : List Nat) : List Int := ((List.range l.length).filter fun i => l[i]? == some 42).map fun (i : Nat) => (i : Int)
theorem posns_eq (f : Str) : posns f = posL (tl f) := by
  unfold posns posL
  rw [tl_length]
  congr 1
  apply List.filter_congr
  intro i _
  simp [tl]
theorem filter_none {l : List Nat} (h : 42 ∉ l) : (List.range l.length).filter (fun i => l[i]? == some 42) = [] := by
  rw [List.filter_eq_nil_iff]
  intro i hi e
  exact h (List.mem_of_getElem? (eq_of_beq e))
theorem posL_last {u v : List Nat} (h : 42 ∉ v) : (posL (u ++ 42 :: v)).getLast? = some (u.length : Int) := by
  unfold posL
  have e1 : (u ++ 42 :: v).length = (u.length + 1) + v.length := by simp; omega
  rw [e1, List.range_add, List.filter_append]
  have e2 : ((List.range v.length).map (fun x => u.length + 1 + x)).filter (fun i => (u ++ 42 :: v)[i]? == some 42) = [] := by
    rw [List.filter_eq_nil_iff]
    intro i hi e
    obtain ⟨j, hj, rfl⟩ := List.mem_map.mp hi
    have := eq_of_beq e
    rw [List.getElem?_append_right (by omega), show u.length + 1 + j - u.length = j + 1 by omega, List.getElem?_cons_succ] at this
    exact h (List.mem_of_getElem? this)
  rw [e2, List.append_nil, List.range_succ, List.filter_append]
  have e3 : [u.length].filter (fun i => (u ++ 42 :: v)[i]? == some 42) = [u.length] := by simp
  rw [e3, List.map_append]
  simp
theorem posL_head {u v : List Nat} (h : 42 ∉ u) : (posL (u ++ 42 :: v)).head? = some (u.length : Int) := by
  unfold posL
  have e1 : (u ++ 42 :: v).length = u.length + (1 + v.length) := by simp; omega
  rw [e1, List.range_add, List.filter_append]
  have e2 : (List.range u.length).filter (fun i => (u ++ 42 :: v)[i]? == some 42) = [] := by
    rw [List.filter_eq_nil_iff]
    intro i hi e
    have := eq_of_beq e
    rw [List.getElem?_append_left (List.mem_range.mp hi)] at this
    exact h (List.mem_of_getElem? this)
  rw [e2, List.nil_append, Nat.add_comm 1, List.range_succ_eq_map, List.map_cons, List.filter_cons]
  simp
end Mine
namespace Mine
open PySem.Builtin PySem.Builtin.Str

theorem tl_join : ∀ l : List Str, tl (Txt.join (Str.ofString "") l) = (l.map tl).flatten := by
  intro l
  have key : ∀ (ps : List Str) (a : Array Nat), (ps.foldl (fun acc p => acc ++ (Str.ofString "").cps ++ p.cps) a).toList = a.toList ++ (ps.map tl).flatten := by
    intro ps
    induction ps with
    | nil => intro a; simp
    | cons p ps ih =>
      intro a
      rw [List.foldl_cons, ih]
      have : (Str.ofString "").cps = #[] := by decide
      rw [this]
      simp [tl]
  have e : tl (Txt.join (Str.ofString "") l) = ((l.drop 1).foldl (fun acc p => acc ++ (Str.ofString "").cps ++ p.cps) (l.headD Str.empty).cps).toList := rfl
  rw [e, key]
  cases l with
  | nil => decide
  | cons p ps => simp [tl]
theorem tl_strjoin : ∀ ps : List Str, tl (Str.join (Str.ofString "*") ps) = joinStar (ps.map tl)
  | [] => by decide
  | [p] => rfl
  | p :: q :: r => by
    have ih := tl_strjoin (q :: r)
    show tl (p ++ Str.ofString "*" ++ Str.join (Str.ofString "*") (q :: r)) = _
    rw [tl_append, tl_append, ih]
    have : tl (Str.ofString "*") = [42] := by decide
    rw [this]
    simp [joinStar]
theorem pieces_spl (x : Str) : (pieces x).map tl = spl (tl x) := by
  have h := StrLaws.join_split x (Str.ofString "*")
  have e : Str.ofString "*" = ⟨#[42]⟩ := by decide
  have hf : ∀ p ∈ (pieces x).map tl, 42 ∉ p := by
    intro p hp
    obtain ⟨q, hq, rfl⟩ := List.mem_map.mp hp
    unfold pieces at hq
    rw [e] at hq
    exact StrLaws.split_free x 42 q hq
  have hn : (pieces x).map tl ≠ [] := by
    intro hn
    have := pieces_pos x
    rw [← List.length_map (f := tl), hn] at this
    simp at this
  have h2 := spl_join hn hf
  rw [← tl_strjoin] at h2
  unfold pieces at h2 ⊢
  rw [h] at h2
  exact h2.symm
theorem tl_esc (x : Str) : tl (esc x) = E (tl x) := by simp [tl, esc, E]
theorem tl_wrap (x : Str) : tl (wrap x) = opn ++ tl x ++ [41] := by
  unfold wrap
  rw [tl_append, tl_append]
  have h1 : tl (Str.ofString "(?>.*?") = opn := by decide
  have h2 : tl (Str.ofString ")") = [41] := by decide
  rw [h1, h2]

theorem tailP_idx : ∀ ps : List (List Nat), (ps.mapIdx fun j p => if j = ps.length - 1 then [46, 42] ++ E p else opn ++ E p ++ [41]).flatten = tailP ps
  | [] => rfl
  | [q] => by simp [tailP]
  | q :: r :: rs => by
    have ih := tailP_idx (r :: rs)
    rw [List.mapIdx_cons, List.flatten_cons, tailP]
    rw [if_neg (by simp), ← ih]
    congr 2
    apply List.ext_getElem?
    intro i
    rw [List.getElem?_mapIdx, List.getElem?_mapIdx]
    cases (r :: rs)[i]? with
    | none => rfl
    | some z =>
      have : (i + 1 = (q :: r :: rs).length - 1) ↔ (i = (r :: rs).length - 1) := by simp
      simp [this]

theorem tl_tp (x : Str) : tl (tp x) = tpl (tl x) := by
  unfold tp tpl
  rw [tl_join, ← pieces_spl]
  have hpos := pieces_pos x
  generalize pieces x = ps at hpos
  have e : (lastL (stepL (ps.map esc) (ps.length - 2))).map tl = (ps.map tl).mapIdx fun j p => if j = ps.length - 1 then [46, 42] ++ E p else if 1 ≤ j then opn ++ E p ++ [41] else E p := by
    apply List.ext_getElem?
    intro i
    rw [List.getElem?_map, List.getElem?_mapIdx, List.getElem?_map]
    unfold lastL
    rw [List.getElem?_set, stepL_length, List.length_map]
    have hds : tl (Str.ofString ".*") = [46, 42] := by decide
    by_cases hi : ps.length - 1 = i
    · subst hi
      rw [if_pos rfl, if_pos (by omega)]
      have hp : ps[ps.length - 1]? = some ps[ps.length - 1] := List.getElem?_eq_getElem (by omega)
      rw [stepL, List.getElem?_mapIdx, List.getElem?_map, hp]
      simp only [Option.map_some, Option.getD_some, if_true]
      rw [if_neg (by omega), tl_append, tl_esc, hds]
    · rw [if_neg hi, stepL, List.getElem?_mapIdx, List.getElem?_map]
      cases hp : ps[i]? with
      | none => rfl
      | some z =>
        have hlt := (List.getElem?_eq_some_iff.mp hp).1
        simp only [Option.map_some]
        have h0 : ¬ i = ps.length - 1 := fun e => hi e.symm
        by_cases h1 : 1 ≤ i
        · have h2 : 1 ≤ i ∧ i ≤ ps.length - 2 := ⟨h1, by omega⟩
          simp only [if_neg h0, if_pos h1, if_pos h2, tl_wrap, tl_esc]
        · have h2 : ¬ (1 ≤ i ∧ i ≤ ps.length - 2) := fun h => h1 h.1
          simp only [if_neg h0, if_neg h1, if_neg h2, tl_esc]
  rw [e]
  match ps, hpos with
  | [p], _ => simp [tpP]
  | p :: q :: r, _ =>
    rw [List.map_cons, List.mapIdx_cons, List.flatten_cons]
    rw [if_neg (by simp), if_neg (by omega)]
    show _ = E (tl p) ++ tailP ((q :: r).map tl)
    rw [← tailP_idx]
    congr 2
    apply List.ext_getElem?
    intro i
    rw [List.getElem?_mapIdx, List.getElem?_mapIdx]
    cases ((q :: r).map tl)[i]? with
    | none => rfl
    | some z =>
      have h1 : (i + 1 = (p :: q :: r).length - 1) ↔ (i = ((q :: r).map tl).length - 1) := by simp
      simp only [Option.map_some, h1]
      by_cases h2 : i = ((q :: r).map tl).length - 1
      · rw [if_pos h2, if_pos h2]
      · rw [if_neg h2, if_neg h2, if_pos (by omega)]

-- the law's heart
theorem tailP_cons {q : List Nat} {rs : List (List Nat)} (h : rs ≠ []) : tailP (q :: rs) = opn ++ E q ++ [41] ++ tailP rs := by
  cases rs with
  | nil => exact absurd rfl h
  | cons r rs => rfl
theorem tpP_cons {q : List Nat} {rs : List (List Nat)} (h : rs ≠ []) : tpP (q :: rs) = E q ++ tailP rs := by
  cases rs with
  | nil => exact absurd rfl h
  | cons r rs => rfl
/-- the front of a path's pattern, up to its last star's dot -/
theorem tailP_snoc : ∀ (ps : List (List Nat)) (p : List Nat), ∃ X, tailP (ps ++ [p]) = X ++ [46, 42] ++ E p ∧ ∀ q qs, qs ≠ [] → tailP (ps ++ (q :: qs)) = X ++ opn ++ E q ++ [41] ++ tailP qs
  | [], p => ⟨[], by simp [tailP], fun q qs h => by simp [tailP_cons h]⟩
  | r :: ps, p => by
    obtain ⟨X, h1, h2⟩ := tailP_snoc ps p
    refine ⟨opn ++ E r ++ [41] ++ X, ?_, fun q qs h => ?_⟩
    · rw [List.cons_append, tailP_cons (by simp), h1]; simp
    · rw [List.cons_append, tailP_cons (by simp), h2 q qs h]; simp
theorem tailP_snoc_end (ps : List (List Nat)) (p q : List Nat) : tailP (ps ++ [p ++ q]) = tailP (ps ++ [p]) ++ E q := by
  induction ps with
  | nil => simp [tailP, E_append]
  | cons r ps ih => rw [List.cons_append, List.cons_append, tailP_cons (by simp), tailP_cons (by simp), ih]; simp
theorem glue_snoc (ps : List (List Nat)) (p q : List Nat) (qs : List (List Nat)) : glue (ps ++ [p]) (q :: qs) = ps ++ ((p ++ q) :: qs) := by
  induction ps with
  | nil => rfl
  | cons r ps ih => rw [List.cons_append, glue_cons (by simp), ih]; rfl
/-- where a pattern behind its first piece begins -/
theorem tailP_head {qs : List (List Nat)} (h : qs ≠ []) : (∃ Y, tailP qs = [46, 42] ++ Y ∧ Y[0]? ≠ some 63) ∨ ∃ Y, tailP qs = opn ++ Y := by
  cases qs with
  | nil => exact absurd rfl h
  | cons q rs =>
    cases rs with
    | nil => exact .inl ⟨E q, rfl, fun e => E_head e rfl⟩
    | cons r rs => exact .inr ⟨_, by rw [tailP]; simp only [List.append_assoc]; rfl⟩
end Mine
namespace Mine
open PySem.Builtin PySem.Builtin.Str

theorem join_spl : ∀ l : List Nat, joinStar (spl l) = l
  | [] => rfl
  | c :: r => by
    have ih := join_spl r
    rw [spl_cons]
    by_cases hc : c = 42
    · rw [if_pos hc]
      have := spl_ne r
      cases h : spl r with
      | nil => exact absurd h this
      | cons p ps => rw [h] at ih; show [] ++ 42 :: joinStar (p :: ps) = _; rw [ih, hc]; rfl
    · rw [if_neg hc]
      cases h : spl r with
      | nil => exact absurd h (spl_ne r)
      | cons p ps =>
        rw [h] at ih
        dsimp only
        cases ps with
        | nil => show c :: p = _; rw [← ih]; rfl
        | cons q qs => show (c :: p) ++ 42 :: joinStar (q :: qs) = _; rw [← ih]; rfl
theorem spl_one_iff (l : List Nat) : (∃ p, spl l = [p]) ↔ 42 ∉ l := by
  constructor
  · rintro ⟨p, h⟩
    have h1 := join_spl l
    rw [h] at h1
    have : p = l := h1
    rw [← this]
    exact spl_free l p (by rw [h]; exact .head _)
  · intro h; exact ⟨l, spl_of_free h⟩

theorem front (ps : List (List Nat)) (p : List Nat) : ∃ U, tpP (ps ++ [p]) = U ++ [46, 42] ++ E p ∧ (∀ q, tpP (ps ++ [p ++ q]) = tpP (ps ++ [p]) ++ E q) ∧
    (ps = [] → ∀ q qs, qs ≠ [] → tpP (ps ++ q :: qs) = E q ++ tailP qs) ∧ (ps ≠ [] → ∀ q qs, qs ≠ [] → tpP (ps ++ q :: qs) = U ++ opn ++ E q ++ [41] ++ tailP qs) := by
  cases ps with
  | nil => exact ⟨[], by simp [tpP], fun q => by simp [tpP, E_append], fun _ q qs h => tpP_cons h, fun h => absurd rfl h⟩
  | cons r ps =>
    obtain ⟨X, h1, h2⟩ := tailP_snoc ps p
    refine ⟨E r ++ X, ?_, fun q => ?_, fun h => absurd h (by simp), fun _ q qs h => ?_⟩
    · rw [List.cons_append, tpP_cons (by simp), h1]; simp
    · rw [List.cons_append, List.cons_append, tpP_cons (by simp), tpP_cons (by simp), tailP_snoc_end]; simp
    · rw [List.cons_append, tpP_cons (by simp), h2 q qs h]; simp

theorem star_last {U V : List Nat} (h : 42 ∉ V) {x : Str} (e : tl x = U ++ [46, 42] ++ V) : (posns x).getLast? = some ((U.length : Int) + 1) := by
  rw [posns_eq, e, show U ++ [46, 42] ++ V = (U ++ [46]) ++ 42 :: V by simp, posL_last h]
  simp
theorem last_of_head {x : Str} {c : Int} (h : (posns x).head? = some c) : ∃ b, (posns x).getLast? = some b := by
  cases hp : posns x with
  | nil => rw [hp] at h; cases h
  | cons a l => exact ⟨_, List.getLast?_eq_some_getLast (by simp)⟩

theorem ends_list {l : List (List Nat)} (h : l ≠ []) : ∃ ps p, l = ps ++ [p] := ⟨l.dropLast, l.getLast h, (List.dropLast_concat_getLast h).symm⟩

theorem joined_law (f g : Str) (st mo : Bool) (hst : st = true ↔ 42 ∈ tl f) (hmo : mo = true ↔ 42 ∈ tl g) :
    ∃ a b c, (posns (tp f)).getLast? = some a ∧ (posns (tp g)).getLast? = some b ∧ (posns (tp g)).head? = some c ∧ joinS (tp f) (tp g) st mo a b c = tp (f ++ g) := by
  obtain ⟨ps, p, hf⟩ := ends_list (spl_ne (tl f))
  obtain ⟨U, hU, hU1, hU2, hU3⟩ := front ps p
  have hpf : 42 ∉ p := spl_free (tl f) p (by rw [hf]; simp)
  have ef : tl (tp f) = U ++ [46, 42] ++ E p := by rw [tl_tp, tpl, hf, hU]
  have ha := star_last (E_free hpf) ef
  have hstp : st = true ↔ ps ≠ [] := by
    rw [hst]
    constructor
    · intro h e
      rw [e] at hf
      exact (spl_one_iff (tl f)).mp ⟨p, hf⟩ h
    · intro h
      false_or_by_contra
      rename_i hn
      obtain ⟨r, hr⟩ := (spl_one_iff (tl f)).mpr hn
      rw [hf] at hr
      cases ps with
      | nil => exact h rfl
      | cons a as => simp at hr
  have efg : tl (tp (f ++ g)) = tpP (glue (ps ++ [p]) (spl (tl g))) := by rw [tl_tp, tl_append, tpl, spl_append, hf]
  cases hg : spl (tl g) with
  | nil => exact absurd hg (spl_ne _)
  | cons q qs =>
    have hqf : 42 ∉ q := spl_free (tl g) q (by rw [hg]; exact .head _)
    rw [hg, glue_snoc] at efg
    by_cases hqs : qs = []
    · subst hqs
      have hm : mo = false := by
        cases hmv : mo with
        | false => rfl
        | true => exact absurd (hmo.mp hmv) ((spl_one_iff (tl g)).mp ⟨q, hg⟩)
      have eg : tl (tp g) = [] ++ [46, 42] ++ E q := by rw [tl_tp, tpl, hg]; rfl
      have hb := star_last (E_free hqf) eg
      have hc : (posns (tp g)).head? = some 1 := by
        rw [posns_eq, eg, show ([] : List Nat) ++ [46, 42] ++ E q = [46] ++ 42 :: E q by simp, posL_head (by decide)]; rfl
      refine ⟨_, _, _, ha, hb, hc, ?_⟩
      rw [joinS_4 hm]
      apply str_ext
      rw [efg, hU1, tl_append, slice_from_tl (by simp) (by rw [eg]; simp; omega), eg, ef, hU]
      simp
    · have hm : mo = true := by
        rw [hmo]
        false_or_by_contra
        rename_i hn
        obtain ⟨r, hr⟩ := (spl_one_iff (tl g)).mpr hn
        rw [hg] at hr
        exact hqs (by cases hr; rfl)
      have eg : tl (tp g) = E q ++ tailP qs := by rw [tl_tp, tpl, hg, tpP_cons hqs]
      have sl1 : tl (Txt.slice (tp f) (some ((U.length : Int) + 1 + 1)) none) = E p := by
        rw [slice_from_tl (by omega) (by rw [ef]; simp; omega), ef, show ((U.length : Int) + 1 + 1).toNat = (U ++ [46, 42]).length by simp; omega, List.drop_left]
      cases hstv : st with
      | false =>
        have hps : ps = [] := by
          false_or_by_contra
          rename_i hn
          have := hstp.mpr hn
          rw [hstv] at this; cases this
        have hh : ∃ c, (posns (tp g)).head? = some c := by
          rcases tailP_head hqs with ⟨Y, hY, _⟩ | ⟨Y, hY⟩
          · exact ⟨_, by rw [posns_eq, eg, hY, show E q ++ ([46, 42] ++ Y) = (E q ++ [46]) ++ 42 :: Y by simp, posL_head (by simp; exact E_free hqf)]⟩
          · exact ⟨_, by rw [posns_eq, eg, hY, show E q ++ (opn ++ Y) = (E q ++ [40, 63, 62, 46]) ++ 42 :: (63 :: Y) by simp [opn], posL_head (by simp; exact E_free hqf)]⟩
        obtain ⟨c, hc⟩ := hh
        obtain ⟨b, hb⟩ := last_of_head hc
        refine ⟨_, b, c, ha, hb, hc, ?_⟩
        rw [joinS_3 hm rfl]
        apply str_ext
        rw [tl_append, sl1, eg, efg, hU2 hps _ _ hqs, E_append]
        simp
      | true =>
        have hps : ps ≠ [] := hstp.mp hstv
        have sl0 : tl (Txt.slice (tp f) none (some ((U.length : Int) + 1 - 1))) = U := by
          rw [slice_to_tl (by omega) (by rw [ef]; simp; omega), ef, show ((U.length : Int) + 1 - 1).toNat = U.length by omega, List.append_assoc, List.take_left]
        have slg0 : tl (Txt.slice (tp g) none (some ((E q).length : Int))) = E q := by
          rw [slice_to_tl (by omega) (by rw [eg]; simp; omega), eg, Int.toNat_natCast, List.take_left]
        have slg1 : tl (Txt.slice (tp g) (some ((E q).length : Int)) none) = tailP qs := by
          rw [slice_from_tl (by omega) (by rw [eg]; simp; omega), eg, Int.toNat_natCast, List.drop_left]
        have ho : tl (Str.ofString "(?>.*?") = opn := by decide
        have hcl : tl (Str.ofString ")") = [41] := by decide
        have hqm : tl (Str.ofString "?") = [63] := by decide
        rcases tailP_head hqs with ⟨Y, hY, hY0⟩ | ⟨Y, hY⟩
        · have hc : (posns (tp g)).head? = some (((E q).length : Int) + 1) := by
            rw [posns_eq, eg, hY, show E q ++ ([46, 42] ++ Y) = (E q ++ [46]) ++ 42 :: Y by simp, posL_head (by simp; exact E_free hqf)]; simp
          obtain ⟨b, hb⟩ := last_of_head hc
          refine ⟨_, b, _, ha, hb, hc, ?_⟩
          have hneq : (Txt.slice (tp g) (some (((E q).length : Int) + 1 + 1)) (some (((E q).length : Int) + 1 + 2)) == Str.ofString "?") = false := by
            rw [beq_eq_false_iff_ne]
            intro e
            have e2 := congrArg tl e
            rw [slice_mid_tl (by omega) (by rw [eg, hY]; simp; omega) (by omega), eg, hY, hqm, show (((E q).length : Int) + 1 + 1).toNat = (E q ++ [46, 42]).length by simp; omega, ← List.append_assoc, List.drop_left,
              show (((E q).length : Int) + 1 + 2 - (((E q).length : Int) + 1 + 1)).toNat = 1 by omega] at e2
            cases Y with
            | nil => cases e2
            | cons y ys => simp at e2; exact hY0 (by simp [e2])
          rw [joinS_2 hm rfl hneq]
          apply str_ext
          rw [show ((E q).length : Int) + 1 - 1 = ((E q).length : Int) by omega]
          rw [tl_append, tl_append, tl_append, tl_append, tl_append, sl0, sl1, slg0, slg1, ho, hcl, efg, hU3 hps _ _ hqs, E_append]
          simp
        · have hc : (posns (tp g)).head? = some (((E q).length : Int) + 4) := by
            rw [posns_eq, eg, hY, show E q ++ (opn ++ Y) = (E q ++ [40, 63, 62, 46]) ++ 42 :: (63 :: Y) by simp [opn], posL_head (by simp; exact E_free hqf)]; simp
          obtain ⟨b, hb⟩ := last_of_head hc
          refine ⟨_, b, _, ha, hb, hc, ?_⟩
          have heq : (Txt.slice (tp g) (some (((E q).length : Int) + 4 + 1)) (some (((E q).length : Int) + 4 + 2)) == Str.ofString "?") = true := by
            rw [beq_iff_eq]
            apply str_ext
            rw [slice_mid_tl (by omega) (by rw [eg, hY]; simp [opn]; omega) (by omega), eg, hY, hqm, show (((E q).length : Int) + 4 + 1).toNat = (E q ++ [40, 63, 62, 46, 42]).length by simp; omega,
              show E q ++ (opn ++ Y) = (E q ++ [40, 63, 62, 46, 42]) ++ (63 :: Y) by simp [opn], List.drop_left, show (((E q).length : Int) + 4 + 2 - (((E q).length : Int) + 4 + 1)).toNat = 1 by omega]
            rfl
          rw [joinS_1 hm rfl heq]
          apply str_ext
          rw [show ((E q).length : Int) + 4 - 4 = ((E q).length : Int) by omega]
          rw [tl_append, tl_append, tl_append, tl_append, tl_append, sl0, sl1, slg0, slg1, ho, hcl, efg, hU3 hps _ _ hqs, E_append]
          simp

theorem tailP_len : ∀ ps : List (List Nat), (tailP ps).length ≤ 2 * (ps.map List.length).sum + 7 * ps.length
  | [] => by simp [tailP]
  | [q] => by have := E_len q; simp [tailP]; omega
  | q :: r :: rs => by
    have ih := tailP_len (r :: rs)
    have := E_len q
    rw [tailP]
    simp only [List.length_append, List.map_cons, List.sum_cons, List.length_cons, opn, List.length_nil] at ih ⊢
    omega
theorem tpP_len : ∀ ps : List (List Nat), (tpP ps).length ≤ 2 * (ps.map List.length).sum + 7 * ps.length
  | [] => by simp [tpP]
  | [q] => by have := E_len q; simp [tpP]; omega
  | q :: r :: rs => by
    have ih := tailP_len (r :: rs)
    have := E_len q
    rw [tpP]
    simp only [List.length_append, List.map_cons, List.sum_cons, List.length_cons] at ih ⊢
    omega
theorem tp_len (x : Str) : (tp x).length ≤ 9 * x.length + 9 := by
  rw [← tl_length, tl_tp, tpl]
  have h := tpP_len (spl (tl x))
  have h2 := split_weight x (Str.ofString "*") (by decide)
  have h3 : (Txt.split x (Str.ofString "*")) = pieces x := rfl
  rw [h3] at h2
  have h4 : ((pieces x).map (·.length)).sum = ((spl (tl x)).map List.length).sum := by
    rw [← pieces_spl, List.map_map]
    congr 1
  have h5 : (pieces x).length = (spl (tl x)).length := by rw [← pieces_spl, List.length_map]
  omega
end Mine
namespace Mine
open PySem.Builtin

local macro_rules | `(tactic| walk_at "my steps") => `(tactic| repeat' (first | (k_unfold; (try dsimp only)) | ((fail_if_success (with_reducible show wpAny _ _ (pyIter _) _ _ _)); (fail_if_success (with_reducible show Exists _)); (fail_if_success (with_reducible show wpAny _ _ (call (Value.ref _) _) _ _ _)); (first | walk1 | (dsimp only; walk1)); (try dsimp only))))

theorem has_star (f : Str) : (!(PySem.Builtin.Str.occurrences f (Str.ofString "*") 0 f.length 1).isEmpty) = true ↔ 42 ∈ tl f := by
  rw [show Str.ofString "*" = ⟨#[42]⟩ by decide, StrLaws.found_one, decide_eq_true_eq]
theorem tp_empty : tp (Str.ofString "") = Str.ofString ".*" := by kernel_rfl
theorem tp_star : tp (Str.ofString "*") = Str.ofString ".*" := by kernel_rfl
theorem tp_meaning {r : Int} (h0 : 0 ≤ r) (h1 : r < 23) : tp (Txt.item (Str.ofString "()[]{}?+-|^$\\.&~# \t\n\x0d\x0b\x0c") r) = Str.ofString ".*\\" ++ Txt.item (Str.ofString "()[]{}?+-|^$\\.&~# \t\n\x0d\x0b\x0c") r := by
  have key : ((List.range 23).all fun (i : Nat) => tp (Txt.item (Str.ofString "()[]{}?+-|^$\\.&~# \t\n\x0d\x0b\x0c") (i : Int)) == Str.ofString ".*\\" ++ Txt.item (Str.ofString "()[]{}?+-|^$\\.&~# \t\n\x0d\x0b\x0c") (i : Int)) = true := by kernel_rfl
  have := List.all_eq_true.mp key r.toNat (by rw [List.mem_range]; omega)
  rw [Int.toNat_of_nonneg h0] at this
  exact eq_of_beq this
theorem tp_plain {r : Int} (h0 : 0 ≤ r) (h1 : r < 24) : tp (Txt.item (Str.ofString "abBdDsSwWAZzxuN09_/%=,!:") r) = Str.ofString ".*" ++ Txt.item (Str.ofString "abBdDsSwWAZzxuN09_/%=,!:") r := by
  have key : ((List.range 24).all fun (i : Nat) => tp (Txt.item (Str.ofString "abBdDsSwWAZzxuN09_/%=,!:") (i : Int)) == Str.ofString ".*" ++ Txt.item (Str.ofString "abBdDsSwWAZzxuN09_/%=,!:") (i : Int)) = true := by kernel_rfl
  have := List.all_eq_true.mp key r.toNat (by rw [List.mem_range]; omega)
  rw [Int.toNat_of_nonneg h0] at this
  exact eq_of_beq this
theorem fmod_lo (x : Int) {n : Int} (h : 0 < n) : 0 ≤ x.fmod n := Int.fmod_nonneg_of_pos x h
theorem mul3 {l k : Nat} {x : Int} (h : 0 ≤ x.fmod 4 → (l : Int) = (k : Int) * x.fmod 4) (hk : k ≤ 1) : l ≤ 3 := by
  have h0 : 0 ≤ x.fmod 4 := Int.fmod_nonneg_of_pos x (by decide)
  have h1 : x.fmod 4 < 4 := Int.fmod_lt_of_pos x (by decide)
  have h2 := h h0
  have : k = 0 ∨ k = 1 := by omega
  rcases this with rfl | rfl
  · simp at h2; omega
  · simp at h2; omega
theorem mul1 {prog : Program} {w : World} {A : Around} {E : Value → Shared → Prop} {s : Shared} {x : Str} {t u : Tok} {n : Int} {Q : Value → Shared → Prop} (hx : x.length ≤ 1) (h0 : 0 ≤ n) (h4 : n < 4)
    (h : ∀ t' k, (Txt.mul x n).length ≤ 3 → Q (.str (Txt.mul x n) t') { s with toks := k }) : wpAny (model prog w) A (binaryOp .Mult (.str x t) (.int n u)) Q E s := by
  exact SB.mul (mulOk_of 1 4 hx (by omega) (by omega) (by decide) (by decide)) fun t' k => h t' k (len_mul_leN (L := 1) (N := 3) hx (by omega))
theorem fmod_hi (x : Int) {n : Int} (h : 0 < n) : x.fmod n < n := Int.fmod_lt_of_pos x h

end Mine
open Mine PySem.Builtin
local macro_rules | `(tactic| walk_at "my steps") => `(tactic| repeat' (first | (k_unfold; (try dsimp only)) | ((fail_if_success (with_reducible show wpAny _ _ (pyIter _) _ _ _)); (fail_if_success (with_reducible show Exists _)); (fail_if_success (with_reducible show wpAny _ _ (call (Value.ref _) _) _ _ _)); (first | walk1 | (dsimp only; walk1)); (try dsimp only))))
set_option maxRecDepth 100000 in
set_option maxHeartbeats 8000000 in
theorem PySem.Challenge.cw_kn0088_04_holds : PySem.Challenge.rw_kn0088_04.Holds := by
  refine hd4 ?_
  k_go0
  rename World => w
  rename List Int => ns
  rename List Value => vsS
  rename Frag.In _ _ => KX
  rename Top _ _ _ _ _ _ => hT
  rename IntsAre _ _ => hI
  rename Heap.IsList _ _ _ => hL
  rename ¬ _ => hlen63
  walk_at "my steps"
  have C0 : ∀ env, Cx (hd4.heap_39 w.params) hd4.view_39 (looseW hd4.view_39 [Str.ofString "_special_chars_map"]) _ _ _ (callerA.deeper env) _ 12 := fun env => ⟨rfl, by show callerA.depth + 1 + 12 < _; decide, by show callerA.units + 3 + 8 * 12 < _; decide, KX, hT⟩
  refine tp_spec (((C0 _).keep (Fr.keep (by assumption))).le (by decide)) (by decide) fun h2 tk2 tk2' st2 => ?_
  rw [tp_empty]
  rename Fr _ _ _ _ => hF
  rename News _ _ _ _ => hN
  have hF2 := fr_keep hF st2
  have hN2 := news_keep hN st2
  clear hF hN
  try dsimp only
  walk_at "my steps"
  rename_i lP h3 l1 h4 hF4 hN4 h5 tk5 t5 u5 v5 hr5 hF5 hN5 hk5
  have hn63 : ns.length ≤ 63 := by omega
  try dsimp only at hr5
  refine iter_rangeK (n := ns.length) [Str.ofString "kind", Str.ofString "rest", Str.ofString "sign", Str.ofString "alone", Str.ofString "times"] (fun i news => ∃ ss vs c, news = [(lP, W.listOf (List.toArray vs) c)] ∧ StrsAre vs ss ∧ ss.length = 2 ∧ ∀ y ∈ ss, y.length ≤ 3 * i) rfl hr5 (range_small (by omega) (by omega) (by omega) (by omega)) (by rw [rangeSize_nat]; omega) hF5 hN5 ?_ ?_ ?_
  · exact ⟨[Str.ofString "", Str.ofString ""], _, _, rfl, .cons _ _ (.cons _ _ .nil), rfl, by decide⟩
  · rintro i ti u news₁ h6 tk6 I own hi ⟨ss, vs, c, rfl, hss, hs2, hsl⟩ hoff hown hI6 hF6 hN6
    simp only [overs] at hF6
    have hix := Mine.fmod_lo (0 + (i : Int)) (n := 2) (by decide)
    have hix2 := Mine.fmod_hi (0 + (i : Int)) (n := 2) (by decide)
    obtain ⟨y, hy⟩ : ∃ y, ss[((0 + (i : Int)).fmod 2).toNat]? = some y := ⟨_, List.getElem?_eq_getElem (by omega)⟩
    obtain ⟨ty, hv⟩ := hss.get _ y hy
    have hyl := hsl y (List.mem_of_getElem? hy)
    have hown' : ∀ p ∈ own, p.1 ≠ lP := fun p hp e => hoff _ (.head _) ((hown p hp).symm.trans e).symm
    try dsimp only
    walk_at "my steps"
    · refine tp_spec (((C0 _).keep (Fr.keep (by assumption))).le (by decide)) (by decide) fun h7 tk7 tk7' st7 => ?_
      rw [tp_star]
      rename Fr _ _ _ _ => hF
      rename News _ _ _ _ => hN
      have hF7 := fr_keep hF st7
      have hN7 := news_keep hN st7
      clear hF hN
      try dsimp only
      walk_at "my steps"
      refine wpAny_getItem_list (News.isList hN7 (.head _)) hix (by omega) (by simpa using hv) ?_
      try dsimp only
      walk_at "my steps"
      rename 0 ≤ _ → _ => kN
      have hm3 := mul3 kN (by decide)
      refine SBL.iadd (hsz := ?hsz) ?_
      case hsz => rw [sizeLine_eq]; omega
      intro t8 tk8 hl8
      try dsimp only
      walk_at "my steps"
      refine set_strs hss hF7 hN7 hown' hix (by omega) (by omega) fun h9 vs9 hvs9 hF9 hN9 => ?_
      try dsimp only
      walk_at "my steps"
      refine LoopStepU.intro hF9 (news₂ := [(lP, W.listOf vs9.toArray c)]) (fun p hp => hN9 p ?_) ?_ ⟨?_, _, vs9, c, rfl, hvs9, by rw [List.length_set]; exact hs2, ?_⟩
      · rcases List.mem_append.mp hp with hp | hp
        · exact .tail _ hp
        · rw [List.mem_singleton.mp hp]; exact .head _
      · intro p hp
        rw [List.mem_singleton.mp hp, List.mem_singleton]
        exact hoff (lP, W.listOf vs.toArray c) (.head _)
      · intro z hz
        simp only [List.mem_cons, List.not_mem_nil, not_or, or_false] at hz
        simp only [hz, if_false]
      · intro z hz
        rcases List.mem_or_eq_of_mem_set hz with h1 | rfl
        · have := hsl z h1; omega
        · omega
    · refine tp_spec (((C0 _).keep (Fr.keep (by assumption))).le (by decide)) (by omega) fun h7 tk7 tk7' st7 => ?_
      rw [tp_meaning (Mine.fmod_lo _ (by decide)) (Mine.fmod_hi _ (by decide))]
      rename Fr _ _ _ _ => hF
      rename News _ _ _ _ => hN
      have hF7 := fr_keep hF st7
      have hN7 := news_keep hN st7
      clear hF hN
      try dsimp only
      walk_at "my steps"
      · exfalso
        rename (_ != _) = true => hbad
        rw [bne_self_eq_false] at hbad
        cases hbad
      refine wpAny_getItem_list (News.isList hN7 (.head _)) hix (by omega) (by simpa using hv) ?_
      try dsimp only
      walk_at "my steps"
      refine mul1 (by omega) (Mine.fmod_lo _ (by decide)) (Mine.fmod_hi _ (by decide)) fun t10 k10 hm3 => ?_
      try dsimp only
      refine SBL.iadd (hsz := ?hsz) ?_
      case hsz => rw [sizeLine_eq]; omega
      intro t8 tk8 hl8
      try dsimp only
      walk_at "my steps"
      refine set_strs hss hF7 hN7 hown' hix (by omega) (by omega) fun h9 vs9 hvs9 hF9 hN9 => ?_
      try dsimp only
      walk_at "my steps"
      refine LoopStepU.intro hF9 (news₂ := [(lP, W.listOf vs9.toArray c)]) (fun p hp => hN9 p ?_) ?_ ⟨?_, _, vs9, c, rfl, hvs9, by rw [List.length_set]; exact hs2, ?_⟩
      · rcases List.mem_append.mp hp with hp | hp
        · exact .tail _ hp
        · rw [List.mem_singleton.mp hp]; exact .head _
      · intro p hp
        rw [List.mem_singleton.mp hp, List.mem_singleton]
        exact hoff (lP, W.listOf vs.toArray c) (.head _)
      · intro z hz
        simp only [List.mem_cons, List.not_mem_nil, not_or, or_false] at hz
        simp only [hz, if_false]
      · intro z hz
        rcases List.mem_or_eq_of_mem_set hz with h1 | rfl
        · have := hsl z h1; omega
        · omega
    · refine tp_spec (((C0 _).keep (Fr.keep (by assumption))).le (by decide)) (by omega) fun h7 tk7 tk7' st7 => ?_
      rw [tp_plain (Mine.fmod_lo _ (by decide)) (Mine.fmod_hi _ (by decide))]
      rename Fr _ _ _ _ => hF
      rename News _ _ _ _ => hN
      have hF7 := fr_keep hF st7
      have hN7 := news_keep hN st7
      clear hF hN
      try dsimp only
      walk_at "my steps"
      · exfalso
        rename (_ != _) = true => hbad
        rw [bne_self_eq_false] at hbad
        cases hbad
      refine wpAny_getItem_list (News.isList hN7 (.head _)) hix (by omega) (by simpa using hv) ?_
      try dsimp only
      walk_at "my steps"
      refine mul1 (by omega) (Mine.fmod_lo _ (by decide)) (Mine.fmod_hi _ (by decide)) fun t10 k10 hm3 => ?_
      try dsimp only
      refine SBL.iadd (hsz := ?hsz) ?_
      case hsz => rw [sizeLine_eq]; omega
      intro t8 tk8 hl8
      try dsimp only
      walk_at "my steps"
      refine set_strs hss hF7 hN7 hown' hix (by omega) (by omega) fun h9 vs9 hvs9 hF9 hN9 => ?_
      try dsimp only
      walk_at "my steps"
      refine LoopStepU.intro hF9 (news₂ := [(lP, W.listOf vs9.toArray c)]) (fun p hp => hN9 p ?_) ?_ ⟨?_, _, vs9, c, rfl, hvs9, by rw [List.length_set]; exact hs2, ?_⟩
      · rcases List.mem_append.mp hp with hp | hp
        · exact .tail _ hp
        · rw [List.mem_singleton.mp hp]; exact .head _
      · intro p hp
        rw [List.mem_singleton.mp hp, List.mem_singleton]
        exact hoff (lP, W.listOf vs.toArray c) (.head _)
      · intro z hz
        simp only [List.mem_cons, List.not_mem_nil, not_or, or_false] at hz
        simp only [hz, if_false]
      · intro z hz
        rcases List.mem_or_eq_of_mem_set hz with h1 | rfl
        · have := hsl z h1; omega
        · omega
  · intro u news₁ h6 tk6 hJ hF6 hN6
    obtain ⟨ss, vs, c, rfl, hss, hs2, hsl⟩ := hJ
    match ss, hs2 with
    | [fS, gS], _ =>
    obtain ⟨tf, vs1, rfl, hss1⟩ := hss.cons_inv
    obtain ⟨tg, vs2, rfl, hss2⟩ := hss1.cons_inv
    obtain rfl := hss2.nil_inv
    have hfl := hsl fS (.head _)
    have hgl := hsl gS (.tail _ (.head _))
    clear hss hss1 hss2 hsl
    simp only [overs] at hF6
    try dsimp only
    walk_at "my steps"
    refine tp_spec (((C0 _).keep (Fr.keep (by assumption))).le (by decide)) (by omega) fun h7 tk7 tk7' st7 => ?_
    rename Fr _ _ _ _ => hF
    rename News _ _ _ _ => hN
    have hF7 := fr_keep hF st7
    have hN7 := news_keep hN st7
    clear hF hN
    try dsimp only
    walk_at "my steps"
    refine tp_spec (((C0 _).keep (Fr.keep (by assumption))).le (by decide)) (by omega) fun h8 tk8 tk8' st8 => ?_
    have hF8 := fr_keep hF7 st8
    have hN8 := news_keep hN7 st8
    clear hF7 hN7
    try dsimp only
    walk_at "my steps"
    obtain ⟨pa, pb, pc, hpa, hpb, hpc, hj⟩ := joined_law fS gS _ _ (has_star fS) (has_star gS)
    have hl1 := tp_len fS
    have hl2 := tp_len gS
    refine joined_spec (((C0 _).keep (Fr.keep (by assumption))).le (by decide)) (by omega) (by omega) hpa hpb hpc fun h9 tk9 tk9' st9 => ?_
    rw [hj]
    have hF9 := fr_keep hF8 st9
    have hN9 := news_keep hN8 st9
    clear hF8 hN8 hpa hpb hpc hj
    try dsimp only
    walk_at "my steps"
    refine tp_spec (((C0 _).keep (Fr.keep (by assumption))).le (by decide)) (by rw [Str.length_append]; omega) fun h10 tk10 tk10' st10 => ?_
    rename Fr _ _ _ _ => hF
    rename News _ _ _ _ => hN
    have hF10 := fr_keep hF st10
    have hN10 := news_keep hN st10
    clear hF hN
    try dsimp only
    walk_at "my steps"
    rw [beq_self_eq_true]
    wrow_close
