import PyProof.Rows.All
import Wide.All
import OpenK.AllK
import Wide.FinOn
import Lean
import PySem.Challenge.RW_kn0088_03
open PySem PySem.W PyProof.Rows
set_option Elab.async false
set_option maxRecDepth 100000
namespace Mine
open PySem.Builtin

-- map's facts
theorem slot_map_next : Slot "map" "__next__" "map.__next__" :=
  .of (owner := "map") (n := "__next__") (by rw [typeLookup_type, builtinLookup_eq_fast]; kernel_rfl) (by decide +kernel) (by decide +kernel) (by decide +kernel)
    (by first | exact .inl (by decide +kernel) | exact .inr (by decide +kernel)) (by rw [isSubtype_type]; kernel_rfl)
theorem slot_map_iter : Slot "map" "__iter__" "map.__iter__" :=
  .of (owner := "map") (n := "__iter__") (by rw [typeLookup_type, builtinLookup_eq_fast]; kernel_rfl) (by decide +kernel) (by decide +kernel) (by decide +kernel)
    (by first | exact .inl (by decide +kernel) | exact .inr (by decide +kernel)) (by rw [isSubtype_type]; kernel_rfl)
theorem slot_map_init : Slot "map" "__init__" "object.__init__" :=
  .of (owner := "object") (n := "__init__") (by rw [typeLookup_type, builtinLookup_eq_fast]; kernel_rfl) (by decide +kernel) (by decide +kernel) (by decide +kernel)
    (by first | exact .inl (by decide +kernel) | exact .inr (by decide +kernel)) (by rw [isSubtype_type]; kernel_rfl)
theorem entry_map_next : entryFor table "map.__next__" = some Builtin.«map.__next__» := entryFor_of_tree (by kernel_rfl)
theorem entry_map_new : entryFor table "map.__new__" = some Builtin.«map.__new__» := entryFor_of_tree (by kernel_rfl)
theorem args_map_next_1 (a : Value) : argsOk "map.__next__" ⟨[a], []⟩ := by unfold argsOk; kernel_rfl
theorem args_map_iter_1 (a : Value) : argsOk "map.__iter__" ⟨[a], []⟩ := by unfold argsOk; kernel_rfl
theorem mro_map : mroOf (.type "map") = pure [.type "map", .type "object"] := by rw [mroOf_type]; kernel_rfl
theorem lookup_map_new : typeLookup (.type "map") "__new__" = pure (some (.builtin "map.__new__")) := by rw [typeLookup_type, builtinLookup_eq_fast]; kernel_rfl
theorem sub_map : isSubtype (.type "map") (.type "map") = pure true := by rw [isSubtype_type]; kernel_rfl
theorem called_map : TypeCalled "map" "map.__new__" "object.__init__" :=
  ⟨by decide +kernel, by decide +kernel, ⟨_, _, mro_map⟩, madeBy_type mro_map lookup_map_new (by decide +kernel), by decide +kernel, by rw [isSubtype_type]; kernel_rfl, slot_map_init⟩
theorem typeCall_map_2 (a b : Value) : checkTypeCall "map" ⟨[a, b], []⟩ = pure () := by kernel_rfl
theorem newCall_map_2 (a b : Value) : checkBuiltinCall "map.__new__" ⟨[.type "map", a, b], []⟩ = pure () := by kernel_rfl
theorem map_no_len : typeLookup (.type "map") "__len__" = pure none := by rw [typeLookup_type, builtinLookup_eq_fast]; kernel_rfl
theorem map_no_hint : typeLookup (.type "map") "__length_hint__" = pure none := by rw [typeLookup_type, builtinLookup_eq_fast]; kernel_rfl
theorem entry_map_iter : entryFor table "map.__iter__" = some Builtin.«dict_keyiterator.__iter__» :=
  entryFor_alias (id' := "dict_keyiterator.__iter__") (by kernel_rfl) (by first | rfl | decide +kernel | (unfold String.splitOn; simp +decide [String.splitOnAux])) (by decide +kernel) (by kernel_rfl)
end Mine
namespace Mine
open PySem.Builtin

abbrev IsMap (h : Heap) (e tup : Addr) (f : Value) : Prop :=
  h.get? e = some { cls := .type "map", dict := none, data := .fields #[.ref tup, f], slots := #[] }

section
variable {prog : Program} {w : World} {A : Around} {E : Value → Shared → Prop} {s : Shared}

theorem pyIter_map {e tup : Addr} {f : Value} {Q : Value → Shared → Prop} (he : IsMap s.heap e tup f) (h : Q (.ref e) s) : wpAny (model prog w) A (pyIter (.ref e)) Q E s := by
  have hT : s.TypeIs (.ref e) "map" := ⟨_, he, rfl⟩
  refine wpAny_pyIter_slot hT slot_map_iter (wpAny_call_entry slot_map_iter hT entry_map_iter ?_ (args_map_iter_1 _))
  show wpAny _ _ (ret (.ref e)) _ _ s
  exact wpAny_pure ⟨_, rfl, "map", _, hT, slot_map_next.lookup, h⟩

theorem map_next_item {e tup it l : Addr} {f : Value} {i : Nat} {items : Array Value} {x : Value} {nt : Nat} {Q : Value → Shared → Prop}
    (he : IsMap s.heap e tup f) (ht : s.heap.get? tup = some { cls := .type "tuple", data := .seq #[.ref it] nt }) (hit : s.heap.IsListIter it l i) (hl : s.heap.IsList l items) (hx : items[i]? = some x) (hne : e ≠ it)
    (hf : ∀ h', h'.IsListIter it l (i + 1) → Heap.SameBut it s.heap h' → wpAny (model prog w) A (call f [x]) Q E { s with heap := h' }) :
    wpAny (model prog w) A (Builtin.«map.__next__» ⟨[.ref e], []⟩) (fun fin s' => ∃ v, fin = .done (.ret v) ∧ Q v s') E s := by
  show wpAny _ _ (field (.ref e) 0 >>= _) _ _ _
  refine wpAny_bind (wpAny_field he rfl (x := .ref tup) rfl ?_)
  show wpAny _ _ (seqItems? (.ref tup) >>= _) _ _ _
  refine wpAny_bind (wpAny_seqItems ht rfl ?_)
  dsimp only
  refine wpAny_bind (m := forIn _ _ _) ?_
  simp only [List.forIn_toArray, List.forIn_cons, List.forIn_nil]
  refine wpAny_bind (wpAny_bind (wpAny_holding (wpAny_nextOf_list_item hit hl hx fun h₁ hit₁ hs₁ => ?_)))
  refine wpAny_pure ?_
  dsimp only
  refine wpAny_pure ?_
  have he₁ : IsMap h₁ e tup f := (hs₁.2 e hne).trans he
  refine wpAny_bind (wpAny_field he₁ rfl (x := f) rfl ?_)
  refine wpAny_bind (wpAny_holding (wpAny_mono (hf h₁ hit₁ hs₁) (fun v s' hq => ?_) fun _ _ x => x))
  refine wpAny_bind (wpAny_letGo ?_)
  exact wpAny_pure ⟨v, rfl, hq⟩

theorem pyNext_map_end {e tup it l : Addr} {f : Value} {i : Nat} {items : Array Value} {nt : Nat} {Q : Option Value → Shared → Prop} (hh : A.handled = none)
    (he : IsMap s.heap e tup f) (ht : s.heap.get? tup = some { cls := .type "tuple", data := .seq #[.ref it] nt }) (hit : s.heap.IsListIter it l i) (hl : s.heap.IsList l items) (hx : items[i]? = none)
    (hQ : ∀ h', Heap.ExtBut it s.heap h' → Q none { s with heap := h' }) : wpAny (model prog w) A (pyNext (.ref e)) Q E s := by
  have hT : s.TypeIs (.ref e) "map" := ⟨_, he, rfl⟩
  unfold pyNext
  refine wpAny_bind (wpAny_attempt (wpAny_callSpecial?_slot (name := Str.ofString "__next__") hT slot_map_next
    (wpAny_call_entry slot_map_next hT entry_map_next ?_ (args_map_next_1 _))))
  show wpAny _ _ (field (.ref e) 0 >>= _) _ _ _
  refine wpAny_bind (wpAny_field he rfl (x := .ref tup) rfl ?_)
  show wpAny _ _ (seqItems? (.ref tup) >>= _) _ _ _
  refine wpAny_bind (wpAny_seqItems ht rfl ?_)
  dsimp only
  refine wpAny_bind (m := forIn _ _ _) ?_
  simp only [List.forIn_toArray, List.forIn_cons, List.forIn_nil]
  refine wpAny_bind (wpAny_bind (wpAny_holding (wpAny_nextOf_list_end hh hit hl hx fun h' x he' hx' => ?_)))
  obtain ⟨o, ho, hc⟩ := hx'
  refine wpAny_bind (wpAny_isInstance (T := "StopIteration") (b := true) ⟨o, ho, hc⟩ isSubtype_stop ?_)
  exact wpAny_pure (hQ _ he')

theorem Walks_map1 (hh : A.handled = none) {base : Heap} (e tup it l : Addr) (f : Value) (items : Array Value) (nt : Nat) (P : Nat → Value → Prop)
    (h1 : e ≠ it) (h2 : tup ≠ it) (h3 : l ≠ it) (hb : base.objs.size ≤ it)
    (hf : ∀ i x (s : Shared) (Q : Value → Shared → Prop) (E : Value → Shared → Prop), items[i]? = some x → base.StaysIn s.heap → (∀ v h' tk, P i v → s.heap.StaysIn h' → Q v { s with heap := h', toks := tk }) → wpAny (model prog w) A.in1 (call f [x]) Q E s) :
    Walks prog w A e ([e, tup, it, l] ++ List.range base.objs.size) [it] items.size P
      (fun i h => base.StaysIn h ∧ IsMap h e tup f ∧ h.get? tup = some { cls := .type "tuple", data := .seq #[.ref it] nt } ∧ h.IsListIter it l i ∧ h.IsList l items) where
  sub := fun b hb => by simp at hb; simp [hb]
  frame := fun i h h' ⟨st, a, b, c, d⟩ hk => ⟨fun b o e => hk b (by have := Heap.lt_size e; simp; right; right; right; right; exact this) o (st b o e), hk e (by simp) _ a, hk tup (by simp) _ b, c.at fun o e => hk it (by simp) o e, d.at fun o e => hk l (by simp) o e⟩
  item := fun i s Q E hi ⟨st, he, ht, hit, hl⟩ hQ => by
    have hT : s.TypeIs (.ref e) "map" := ⟨_, he, rfl⟩
    unfold pyNext
    refine wpAny_bind (wpAny_attempt (wpAny_callSpecial?_slot (name := Str.ofString "__next__") hT slot_map_next
      (wpAny_call_entry slot_map_next hT entry_map_next
        (map_next_item he ht hit hl (x := items[i]) (by simp [hi]) h1 fun h' hit' hs' => ?_) (args_map_next_1 _))))
    have ext : ∀ b o, b ≠ it → s.heap.get? b = some o → h'.get? b = some o := fun b o hb e => hs'.extBut b o hb e
    have st' : base.StaysIn h' := fun b o e => ext b o (fun h => absurd (Heap.lt_size e) (by rw [h]; exact Nat.not_lt.mpr hb)) (st b o e)
    refine hf i items[i] _ _ _ (by simp [hi]) st' fun v h'' tk hP hs'' => wpAny_pure ?_
    refine hQ v h'' tk hP ⟨fun b o e => hs'' _ _ (st' b o e), hs'' _ _ (ext e _ h1 he), hs'' _ _ (ext tup _ h2 ht), hit'.at fun o e => hs'' _ _ e, (hl.at fun o e => ext l _ h3 e).at fun o e => hs'' _ _ e⟩ fun b o hb e => hs'' _ _ (ext b o (fun h => hb (by simp [h])) e)
  done := fun s Q E ⟨st, he, ht, hit, hl⟩ hQ => pyNext_map_end hh he ht hit hl (by simp) fun h' he' => hQ h' s.toks fun b o hb e => he' b o (fun h => hb (by simp [h])) e
  self := fun _ _ _ _ ⟨_, he, _⟩ hQ => pyIter_map he hQ

theorem args_object_init_3 (a b c : Value) : argsOk "object.__init__" ⟨[a, b, c], []⟩ := by unfold argsOk; kernel_rfl
theorem meets_map_new (f : Value) (l : Addr) (items : Array Value) :
    Meets (Builtin.«map.__new__» ⟨[.type "map", f, .ref l], []⟩) (fun _ R s => s.heap.IsList l items ∧
      R (.ok (.ret (.ref (s.heap.objs.size + 2))))
        { s with heap := ((s.heap.push { cls := .type "list_iterator", data := .fields #[.ref l, .int 0 0] }).push { cls := .type "tuple", data := .seq #[.ref s.heap.objs.size] }).push { cls := .type "map", data := .fields #[.ref (s.heap.objs.size + 1), f] } }) :=
  .of_wp fun prog w A R s h => by
    obtain ⟨hp, g, d, tk, os⟩ := s; obtain ⟨hl, h⟩ := h
    have hsub := sub_map
    wp_walk using wpAny_pyIter_list hl
    exact ⟨_, rfl, by simpa [Heap.size_push] using h⟩

section
variable {prog : Program} {w : World} {A : Around} {E : Value → Shared → Prop} {s : Shared}
theorem call_map_list {f : Value} {l : Addr} {items : Array Value} {Q : Value → Shared → Prop} (hL : s.heap.IsList l items)
    (h : ∀ h', IsMap h' (s.heap.objs.size + 2) (s.heap.objs.size + 1) f → h'.get? (s.heap.objs.size + 1) = some { cls := .type "tuple", data := .seq #[.ref s.heap.objs.size] } → h'.IsListIter s.heap.objs.size l 0 →
      h'.objs.size = s.heap.objs.size + 3 → (∀ b o, s.heap.get? b = some o → h'.get? b = some o) → Q (.ref (s.heap.objs.size + 2)) { s with heap := h' }) :
    wpAny (model prog w) A (call (.type "map") [f, .ref l]) Q E s := by
  refine callType_new called_map (by decide) (typeCall_map_2 _ _) (newCall_map_2 _ _) (fun obj => args_object_init_3 obj _ _) entry_map_new
    (meets_map_new f l items) ⟨hL, ?_⟩
  have z1 : (s.heap.push { cls := .type "list_iterator", data := .fields #[.ref l, .int 0 0] }).objs.size = s.heap.objs.size + 1 := Heap.size_push ..
  have z2 : ((s.heap.push { cls := .type "list_iterator", data := .fields #[.ref l, .int 0 0] }).push { cls := .type "tuple", data := .seq #[.ref s.heap.objs.size] }).objs.size = s.heap.objs.size + 2 := by rw [Heap.size_push, z1]
  have he : IsMap (((s.heap.push { cls := .type "list_iterator", data := .fields #[.ref l, .int 0 0] }).push { cls := .type "tuple", data := .seq #[.ref s.heap.objs.size] }).push { cls := .type "map", data := .fields #[.ref (s.heap.objs.size + 1), f] }) (s.heap.objs.size + 2) (s.heap.objs.size + 1) f := by
    have := Heap.get?_push_size ((s.heap.push { cls := .type "list_iterator", data := .fields #[.ref l, .int 0 0] }).push { cls := .type "tuple", data := .seq #[.ref s.heap.objs.size] })
      (o := { cls := .type "map", data := .fields #[.ref (s.heap.objs.size + 1), f] }) rfl
    rw [z2] at this; exact this
  have ht : (((s.heap.push { cls := .type "list_iterator", data := .fields #[.ref l, .int 0 0] }).push { cls := .type "tuple", data := .seq #[.ref s.heap.objs.size] }).push { cls := .type "map", data := .fields #[.ref (s.heap.objs.size + 1), f] }).get? (s.heap.objs.size + 1) = some { cls := .type "tuple", data := .seq #[.ref s.heap.objs.size] } := by
    have := Heap.get?_push_size (s.heap.push { cls := .type "list_iterator", data := .fields #[.ref l, .int 0 0] })
      (o := { cls := .type "tuple", data := .seq #[.ref s.heap.objs.size] }) rfl
    rw [z1] at this; exact Heap.get?_push_of_some _ this
  refine ⟨⟨_, he, rfl⟩, h _ he ht ⟨_, Heap.get?_push_of_some _ (Heap.get?_push_of_some _ (Heap.get?_push_size _ rfl)), rfl, rfl⟩ (by rw [Heap.size_push, z2]) fun b o x => Heap.get?_push_of_some _ (Heap.get?_push_of_some _ (Heap.get?_push_of_some _ x))⟩

/-- list(x), x an iterator of a type that has neither a length nor a hint -/
theorem extend_iter {T : String} {R : Result → Shared → Prop} {I : Addr} {fp wr : List Addr} {G : Array GenState → Array GenState → Prop} {n : Nat} {P : Nat → Value → Prop} {St : Nat → Shared → Prop}
    (hlen : typeLookup (.type T) "__len__" = pure none) (hhint : typeLookup (.type T) "__length_hint__" = pure none) (h2 : (Value.type T == Value.type "list") = false) (h3 : (Value.type T == Value.type "tuple") = false)
    (W : WalksS prog w A.in1 I fp wr G n P St) (hT : ∀ i s, St i s → s.TypeIs (.ref I) T) (S : Addr) (res : Value) (c₀ : Nat) (hst : St 0 s) (hSf : S ∉ fp) (hI : I ∈ fp)
    (hS : s.heap.get? S = some { cls := .type "list", data := .seq #[] c₀ })
    (hR : ∀ s' acc' c', Moved (S :: wr) G s s' → s'.heap.get? S = some { cls := .type "list", dict := none, data := .seq acc' c', slots := #[] } → ItemsOf P acc' n → R (.ok (.ret res)) s') (hn : n ≤ sizeLine) :
    wpAny (model prog w) A.in1 (Builtin.List.listExtendWith (.ref S) (.ref I) res)
      (fun fin s' => match fin with | .done f => R (.ok f) s' | .again c' => c'.quiet = true ∧ codeAny (model prog w) A c' R s') (fun e s' => R (.error e) s') s := by
  have hSI : S ≠ I := fun e => hSf (e ▸ hI)
  unfold Builtin.List.listExtendWith
  refine wpAny_bind (wpAny_typeOf (hT 0 _ hst) ?_)
  have h1 : Builtin.List.listSameRef (.ref S) (.ref I) = false := by simp [Builtin.List.listSameRef, hSI]
  simp only [h1, h2, h3, Bool.or_false, Bool.false_eq_true, if_false]
  refine wpAny_bind (W.self 0 _ _ _ hst ?_)
  refine wpAny_bind (wpAny_holding ?_)
  unfold Builtin.List.listLengthHint
  refine wpAny_bind (wpAny_specialOf (hT 0 _ hst) hlen ?_)
  show wpAny _ A.in1 (specialOf (Value.ref I) (Str.ofString "__length_hint__") >>= _) _ _ _
  refine wpAny_bind (wpAny_specialOf (hT 0 _ hst) hhint ?_)
  refine wpAny_pure ?_
  show wpAny _ A.in1 (rule "list.extend.makes-room" >>= fun _ => Builtin.List.listTouch (.ref S) >>= fun _ =>
    again (.builtin "list.extend.loop" ⟨[.ref S, .ref I, res], []⟩)) _ _ _
  refine wpAny_bind (wpAny_rule ?_)
  refine wpAny_bind ?_
  show wpAny _ A.in1 (updateSeq S (·.push .none) >>= fun _ => updateSeq S (·.pop)) _ _ _
  refine wpAny_bind (wpAny_updateSeq hS rfl ?_)
  have hS₂ := Heap.get?_update_self (Obj.mapSeq (·.push Value.none)) hS rfl
  refine wpAny_updateSeq (hz := by seq_fits) hS₂ rfl ?_
  have hS₃ := Heap.get?_update_self (Obj.mapSeq (·.pop)) hS₂ rfl
  have oth : ∀ b o, b ≠ S → s.heap.get? b = some o → ((s.heap.update S (Obj.mapSeq (·.push Value.none))).update S (Obj.mapSeq (·.pop))).get? b = some o :=
    fun b o hb e => (Heap.get?_update_other _ _ (Ne.symm hb)).trans ((Heap.get?_update_other _ _ (Ne.symm hb)).trans e)
  refine wpAny_pure ⟨plainId_quiet F.plain_extend_loop _, codeAny_extend_loopS W hn _ hSf _ n 0 _ _ _ rfl (Nat.zero_le _)
    (W.frame 0 s _ s.toks hst (Nat.le_refl _) fun b hb o e => oth b o (fun h => hSf (h ▸ hb)) e) hS₃ (ItemsOf.nil P) fun s' acc' c' hm hS' hacc => ?_⟩
  exact hR s' acc' c' (Moved.trans W.gtrans ((Moved.refl W.grefl).then_heap (Nat.le_refl _) fun b o hb e => oth b o (fun h => hb (h ▸ List.mem_cons_self)) e) hm) hS' hacc

theorem list_init_iter {T : String} {R : Result → Shared → Prop} {I : Addr} {fp wr : List Addr} {G : Array GenState → Array GenState → Prop} {n : Nat} {P : Nat → Value → Prop} {St : Nat → Shared → Prop}
    (hlen : typeLookup (.type T) "__len__" = pure none) (hhint : typeLookup (.type T) "__length_hint__" = pure none) (h2 : (Value.type T == Value.type "list") = false) (h3 : (Value.type T == Value.type "tuple") = false)
    (W : WalksS prog w A.in1 I fp wr G n P St) (hT : ∀ i s, St i s → s.TypeIs (.ref I) T) (S : Addr) (hst : St 0 s) (hSf : S ∉ fp) (hI : I ∈ fp)
    (hS : s.heap.get? S = some { cls := .type "list", data := .seq #[] })
    (hR : ∀ s' acc' c', Moved (S :: wr) G s s' → s'.heap.get? S = some { cls := .type "list", dict := none, data := .seq acc' c', slots := #[] } → ItemsOf P acc' n → R (.ok (.ret .none)) s') (hn : n ≤ sizeLine) :
    wpAny (model prog w) A.in1 (Builtin.«list.__init__» ⟨[.ref S, .ref I], []⟩)
      (fun fin s' => match fin with | .done f => R (.ok f) s' | .again c' => c'.quiet = true ∧ codeAny (model prog w) A c' R s') (fun e s' => R (.error e) s') s := by
  show wpAny _ A.in1 (do let old ← Builtin.List.listItems (.ref S); Builtin.List.listUpdate (.ref S) (fun _ => #[]); letGo old.toList.reverse; Builtin.List.listExtendWith (.ref S) (.ref I) .none) _ _ s
  refine wpAny_bind ?_
  unfold Builtin.List.listItems
  refine wpAny_bind (wpAny_seqItems hS rfl (wpAny_pure ?_))
  show wpAny _ A.in1 (updateSeq S (fun _ => #[]) >>= fun _ => letGo (#[] : Array Value).toList.reverse >>= fun _ => Builtin.List.listExtendWith (.ref S) (.ref I) .none) _ _ s
  refine wpAny_bind (wpAny_updateSeq hS rfl ?_)
  have hS₂ := Heap.get?_update_self (Obj.mapSeq (fun _ => (#[] : Array Value))) hS rfl
  have oth : ∀ b o, b ≠ S → s.heap.get? b = some o → (s.heap.update S (Obj.mapSeq (fun _ => (#[] : Array Value)))).get? b = some o :=
    fun b o hb e => (Heap.get?_update_other _ _ (Ne.symm hb)).trans e
  refine wpAny_bind (wpAny_letGo ?_)
  refine extend_iter (hn := hn) hlen hhint h2 h3 W hT S .none _ (W.frame 0 s _ s.toks hst (Nat.le_refl _) fun b hb o e => oth b o (fun h => hSf (h ▸ hb)) e) hSf hI hS₂ fun s' acc' c' hm hS' hacc => ?_
  exact hR s' acc' c' (Moved.trans W.gtrans ((Moved.refl W.grefl).then_heap (Nat.le_refl _) fun b o hb e => oth b o (fun h => hb (h ▸ List.mem_cons_self)) e) hm) hS' hacc

theorem call_list_iter {T : String} {I : Addr} {fp wr : List Addr} {n : Nat} {P : Nat → Value → Prop} {St : Nat → Heap → Prop} {Q : Value → Shared → Prop}
    (hlen : typeLookup (.type T) "__len__" = pure none) (hhint : typeLookup (.type T) "__length_hint__" = pure none) (h2 : (Value.type T == Value.type "list") = false) (h3 : (Value.type T == Value.type "tuple") = false)
    (W : Walks prog w A.in1.in1 I fp wr n P St) (hT : ∀ i h, St i h → ∃ o, h.get? I = some o ∧ o.cls = .type T) (hst : St 0 s.heap) (hfp : ∀ b ∈ fp, b < s.heap.objs.size) (hI : I ∈ fp)
    (hQ : ∀ h' tk acc' c', (∀ b o, b ∉ wr → s.heap.get? b = some o → h'.get? b = some o) → h'.get? s.heap.objs.size = some { cls := .type "list", dict := none, data := .seq acc' c', slots := #[] } → ItemsOf P acc' n →
      Q (.ref s.heap.objs.size) { s with heap := h', toks := tk }) (hn : n ≤ sizeLine) :
    wpAny (model prog w) A (call (.type "list") [.ref I]) Q E s := by
  have hSf : s.heap.objs.size ∉ fp := fun hm => Nat.lt_irrefl _ (hfp _ hm)
  refine callType_codes (Q₁ := fun obj s₁ => obj = .ref s.heap.objs.size ∧ s₁ = { s with heap := s.heap.push { cls := .type "list", data := .seq #[] } }) F.called_list (F.typeCall_list_1 _) F.entry_list_init
    (code_list_new _ ⟨rfl, rfl⟩) fun obj s₁ h₁ => ?_
  obtain ⟨rfl, rfl⟩ := h₁
  have hS : (s.heap.push { cls := .type "list", data := .seq #[] }).get? s.heap.objs.size = some { cls := .type "list", data := .seq #[] } := Heap.get?_push_size _ rfl
  refine ⟨⟨_, hS, rfl⟩, F.args_list_init_2 _ _, list_init_iter (hn := hn) hlen hhint h2 h3 W.toS (fun i s st => hT i _ st) _ (W.frame 0 s.heap _ hst fun b _ o e => Heap.get?_push_of_some _ e) hSf hI hS fun s' acc' c' hm hS' hacc => ?_⟩
  refine ⟨rfl, ?_⟩
  rw [Moved.eq_with hm]
  refine hQ s'.heap s'.toks acc' c' (fun b o hb e => hm.heap b o (fun h => ?_) (Heap.get?_push_of_some _ e)) hS' hacc
  rcases List.mem_cons.mp h with h | h
  · exact absurd (Heap.lt_size e) (h ▸ Nat.lt_irrefl _)
  · exact hb h
end
end
end Mine
namespace Mine
open PySem.Builtin

def special (c : Nat) : Bool := [40, 41, 91, 93, 123, 125, 63, 42, 43, 45, 124, 94, 36, 92, 46, 38, 126, 35, 32, 9, 10, 13, 11, 12].contains c
def esc1 (c : Nat) : List Nat := if special c then [92, c] else [c]
def esc (x : Str) : Str := ⟨(x.cps.toList.flatMap esc1).toArray⟩

/-- the table of the special signs lies at d -/
def TransTab (prog : Program) (w : World) (h : Heap) (d : Addr) : Prop :=
  (d == sysModules) = false ∧ ∃ kvs : List (Int × Value), h.DictOf (intKind prog w) d kvs ∧ (∀ c : Nat, special c = true → ∃ t, valueAt kvs (c : Int) = some (.str ⟨#[92, c]⟩ t)) ∧ ∀ c : Nat, special c = false → valueAt kvs (c : Int) = none

theorem TransTab.keep {prog : Program} {w : World} {h h' : Heap} {d : Addr} (T : TransTab prog w h d) (k : h.StaysIn h') : TransTab prog w h' d :=
  let ⟨lo, kvs, hd, r⟩ := T; ⟨lo, kvs, hd.keep k, r⟩

section
variable {prog : Program} {w : World} {A : Around} {E : Value → Shared → Prop} {s : Shared}
theorem tableLookup_yes {d : Addr} {c : Nat} {Q : Str.Mapped → Shared → Prop} (T : TransTab prog w s.heap d) (hc : special c = true)
    (h : ∀ tk, Q (.text ⟨#[92, c]⟩) { s with toks := tk }) : wpAny (model prog w) A (Str.tableLookup (.ref d) c) Q E s := by
  obtain ⟨lo, kvs, hd, hy, hn⟩ := T
  obtain ⟨t, hv⟩ := hy c hc
  unfold Str.tableLookup
  refine wpAny_bind (wpAny_attempt ?_)
  refine wpAny_bind (wpAny_mkInt ?_)
  refine wpAny_getItem_of (intKind_is prog w _ _) hd.mapOf hv ?_
  dsimp only
  refine wpAny_bind (m := asInt? _) (wpAny_pure ?_)
  dsimp only
  refine wpAny_bind (m := asStr? _) (wpAny_pure ?_)
  exact wpAny_pure (h _)

theorem tableLookup_no {d : Addr} {c : Nat} {Q : Str.Mapped → Shared → Prop} (hh : A.handled = none) (T : TransTab prog w s.heap d) (hc : special c = false)
    (h : ∀ h' tk, s.heap.StaysIn h' → Q .keep { s with heap := h', toks := tk }) : wpAny (model prog w) A (Str.tableLookup (.ref d) c) Q E s := by
  obtain ⟨lo, kvs, hd, hy, hn⟩ := T
  unfold Str.tableLookup
  refine wpAny_bind (wpAny_attempt ?_)
  refine wpAny_bind (wpAny_mkInt ?_)
  refine wpAny_getItem_missing_of (intKind_is prog w _ _) lo hh hd.mapOf (hn c hc) fun h' e hx => ?_
  dsimp only
  obtain ⟨ob, t, ho, hcl, _⟩ := hx.there
  refine wpAny_bind (wpAny_isInstance (T := "KeyError") (b := true) ⟨ob, ho, hcl⟩ (by rw [isSubtype_type]; kernel_rfl) ?_)
  refine wpAny_bind (wpAny_rule (wpAny_pure ?_))
  exact h h' _ hx.keeps

def ptxt (ps : List Str) : List Nat := ps.reverse.flatMap (·.cps.toList)
theorem ptxt_cons (p : Str) (ps : List Str) : ptxt (p :: ps) = ptxt ps ++ p.cps.toList := by simp [ptxt]
theorem ptxt_fold (ps : List Str) : ps.reverse.foldl (fun acc p => acc ++ p.cps) #[] = (ptxt ps).toArray := by
  have : ∀ (l : List Str) (a : Array Nat), l.foldl (fun acc p => acc ++ p.cps) a = a ++ (l.flatMap (·.cps.toList)).toArray := by
    intro l
    induction l with
    | nil => intro a; simp
    | cons q l ih => intro a; rw [List.foldl_cons, ih, List.flatMap_cons]; apply Array.ext'; simp [List.append_assoc]
  rw [this]; simp [ptxt]
theorem esc_len_le : ∀ l : List Nat, (l.flatMap esc1).length ≤ 2 * l.length
  | [] => by simp
  | c :: l => by
    have := esc_len_le l
    rw [List.flatMap_cons, List.length_append, List.length_cons]
    have h2 : (esc1 c).length ≤ 2 := by unfold esc1; split <;> simp
    omega
theorem mem_of_lookup' {c : Nat} {a : Option Nat} : ∀ {l : List (Nat × Option Nat)}, l.lookup c = some a → (c, a) ∈ l
  | [], h => by cases h
  | (k, v) :: l, h => by
    rw [List.lookup_cons] at h
    by_cases e : (c == k) = true
    · rw [e] at h; cases h; rw [eq_of_beq e]; exact .head _
    · rw [Bool.not_eq_true] at e; rw [e] at h; exact .tail _ (mem_of_lookup' h)

theorem call_translate {d : Addr} {x : Str} {t : Tok} {Q : Value → Shared → Prop} (hh : A.handled = none) (T : TransTab prog w s.heap d) (hx : x.length ≤ 1000000)
    (h : ∀ h' tk tk', s.heap.StaysIn h' → Q (.str (esc x) tk) { s with heap := h', toks := tk' }) : wpAny (model prog w) A (call (.builtin "str.translate") [.str x t, .ref d]) Q E s := by
  refine wpAny_call_entry F.slot_str_translate (typeIs_str _ _ _) F.entry_str_translate ?_ (F.args_str_translate_2 _ _)
  unfold Builtin.«str.translate»
  obtain ⟨hp, g, dr, tk, os⟩ := s
  wp_walk
  by_cases h0 : (x.length == 0) = true
  · rw [if_pos h0]
    have e0 : esc x = x := by
      have : x.cps = #[] := by have := eq_of_beq h0; exact Array.size_eq_zero_iff.mp this
      obtain ⟨c⟩ := x
      cases this; rfl
    refine wpAny_bind (wpAny_rule ?_)
    refine wpAny_bind (wpAny_pure ?_)
    exact wpAny_pure ⟨_, rfl, e0 ▸ h hp t tk fun _ _ e => e⟩
  rw [if_neg h0]
  dsimp only
  refine wpAny_bind ?_
  refine MeetsSeq2.wpAny_forIn_array _ (fun rest b s' => ∃ pre h' tk', s' = (⟨h', g, dr, tk', os⟩ : Shared) ∧ hp.StaysIn h' ∧ x.cps.toList = pre ++ rest ∧ ptxt b.1 = pre.flatMap esc1 ∧ b.2.1 = (pre.flatMap esc1).length ∧
    (∀ p ∈ b.2.2.2.1, p.2 = some p.1 ∧ special p.1 = false) ∧ b.2.2.2.2 = false) _ ?turn ?fin _ _ ⟨[], hp, tk, rfl, fun _ _ e => e, rfl, rfl, rfl, by simp, rfl⟩
  case fin =>
    rintro ⟨ps, total, fast, known, ad⟩ s' ⟨pre, h', tk', rfl, st, hpre, hps, htot, hk, had⟩
    dsimp only at hps htot hk had ⊢
    rw [List.append_nil] at hpre
    have hl : (pre.flatMap esc1).length ≤ 2 * x.length := by rw [← hpre]; exact esc_len_le _
    rw [if_neg (by simp only [Str.tooLong, decide_eq_true_eq, sizeLine_eq]; omega), ptxt_fold, hps]
    unfold retStr
    refine wpAny_bind (wpAny_mkStr ?_ (by simp only [PySem.Str.length, List.size_toArray, sizeLine_eq]; omega))
    refine wpAny_pure ⟨_, rfl, ?_⟩
    have : (⟨(pre.flatMap esc1).toArray⟩ : Str) = esc x := by rw [esc, hpre]
    rw [this]
    exact h h' _ _ st
  case turn =>
    rintro c rest ⟨ps, total, fast, known, ad⟩ s' ⟨pre, h', tk', rfl, st, hpre, hps, htot, hk, had⟩
    dsimp only at hps htot hk had ⊢
    subst had
    have hl : (pre.flatMap esc1).length ≤ 2 * x.length := by
      have h1 := esc_len_le pre
      have h2 : pre.length ≤ x.length := by show _ ≤ x.cps.size; rw [← Array.length_toList, hpre]; simp
      omega
    rw [if_neg (by simp only [Str.tooLong, decide_eq_true_eq, sizeLine_eq]; omega)]
    have slow : ∀ (R : ForInStep (List Str × Nat × Bool × List (Nat × Option Nat) × Bool) → Shared → Prop) (h₁ : Heap) (tk₁ : Nat) (fast' : Bool), hp.StaysIn h₁ →
      (∀ b s', (∃ pre h' tk', s' = (⟨h', g, dr, tk', os⟩ : Shared) ∧ hp.StaysIn h' ∧ x.cps.toList = pre ++ rest ∧ ptxt b.1 = pre.flatMap esc1 ∧ b.2.1 = (pre.flatMap esc1).length ∧
            (∀ p ∈ b.2.2.2.1, p.2 = some p.1 ∧ special p.1 = false) ∧ b.2.2.2.2 = false) → R (.yield b) s') → wpAny (model prog w) A.in1 (do
        let __do_lift ← Str.tableLookup (Value.ref d) c
        match __do_lift with
          | Str.Mapped.keep => pure (ForInStep.yield ((⟨#[c]⟩ : Str) :: ps, total + 1, fast', known, false))
          | Str.Mapped.drop => pure (ForInStep.yield (ps, total, fast', known, true))
          | Str.Mapped.char d => pure (ForInStep.yield ((⟨#[d]⟩ : Str) :: ps, total + 1, fast', known, false))
          | Str.Mapped.text t => pure (ForInStep.yield (t :: ps, total + t.length, fast', known, false)))
        R E ⟨h₁, g, dr, tk₁, os⟩ := by
      intro R h₁ tk₁ fast' st₁ hR
      cases hc : special c with
      | true =>
        refine wpAny_bind (tableLookup_yes (T.keep st₁) hc fun tk => wpAny_pure ?_)
        refine hR _ _ ⟨pre ++ [c], _, _, rfl, st₁, by rw [hpre]; simp, ?_, ?_, hk, rfl⟩
        · rw [ptxt_cons, hps]; simp [esc1, hc]
        · simp [esc1, hc, htot, PySem.Str.length]
      | false =>
        refine wpAny_bind (tableLookup_no hh (T.keep st₁) hc fun h₂ tk st₂ => wpAny_pure ?_)
        refine hR _ _ ⟨pre ++ [c], _, _, rfl, fun b o e => st₂ b o (st₁ b o e), by rw [hpre]; simp, ?_, ?_, hk, rfl⟩
        · rw [ptxt_cons, hps]; simp [esc1, hc]
        · simp [esc1, hc, htot]
    cases fast with
    | false =>
      simp only [Bool.false_eq_true, if_false]
      exact slow _ h' tk' false st fun _ _ x => x
    | true =>
      simp only [if_true, Bool.false_eq_true, if_false]
      cases hlk : List.lookup c known with
      | some a =>
        obtain ⟨ha, hc⟩ := hk _ (mem_of_lookup' hlk)
        dsimp only at ha hc ⊢
        subst ha
        refine wpAny_bind (wpAny_pure ?_)
        refine wpAny_pure ⟨pre ++ [c], _, _, rfl, st, by rw [hpre]; simp, ?_, ?_, hk, rfl⟩
        · rw [ptxt_cons, hps]; simp [esc1, hc]
        · simp [esc1, hc, htot]
      | none =>
        dsimp only
        cases hc : special c with
        | true =>
          refine wpAny_bind (tableLookup_yes (T.keep st) hc fun tk => ?_)
          dsimp only
          rw [if_neg (by simp [PySem.Str.length])]
          refine wpAny_bind (wpAny_pure ?_)
          refine wpAny_bind (wpAny_rule ?_)
          exact slow _ _ _ false st fun _ _ x => x
        | false =>
          refine wpAny_bind (tableLookup_no hh (T.keep st) hc fun h₂ tk st₂ => ?_)
          dsimp only
          refine wpAny_bind (wpAny_pure ?_)
          refine wpAny_pure ⟨pre ++ [c], _, _, rfl, fun b o e => st₂ b o (st b o e), by rw [hpre]; simp, ?_, ?_, ?_, rfl⟩
          · rw [ptxt_cons, hps]; simp [esc1, hc]
          · simp [esc1, hc, htot]
          · intro p hp'
            rcases List.mem_cons.mp hp' with rfl | hp'
            · exact ⟨rfl, hc⟩
            · exact hk p hp'
end
def entKv (e : DictEntry) : Int × Value := (match e.key with | .int k _ => k | _ => 0, e.val)
def entOk (e : DictEntry) : Bool := match e.key, e.val with
  | .int k _, .str x _ => e.hash == hashInt k && (decide (0 ≤ k) && (special k.toNat && x == ⟨#[92, k.toNat]⟩))
  | _, _ => false
def tabOk (o : Obj) : Bool := o.cls == .type "dict" && (o.dict == none && (o.slots == #[] && match o.data with
  | .dict es _ => es.toList.all entOk && (decide ((es.toList.map entKv).map (·.1)).Nodup && [40, 41, 91, 93, 123, 125, 63, 42, 43, 45, 124, 94, 36, 92, 46, 38, 126, 35, 32, 9, 10, 13, 11, 12].all fun (c : Nat) => (es.toList.map entKv).any fun kv => kv.1 == (c : Int))
  | _ => false))

theorem transTab_of {prog : Program} {w : World} {h : Heap} {d : Addr} {o : Obj} (hd : (d == sysModules) = false) (ho : h.get? d = some o) (hk : tabOk o = true) : TransTab prog w h d := by
  obtain ⟨c, dd, dt, sl⟩ := o
  simp only [tabOk, Bool.and_eq_true] at hk
  obtain ⟨h1, h2, h3, h4⟩ := hk
  cases dt with
  | dict es ep =>
    simp only [Bool.and_eq_true, decide_eq_true_eq, List.all_eq_true] at h4
    obtain ⟨h4, h5, h6⟩ := h4
    have ok : ∀ e ∈ es.toList, ∃ k t u, e.key = .int k t ∧ e.val = .str ⟨#[92, k.toNat]⟩ u ∧ e.hash = hashInt k ∧ 0 ≤ k ∧ special k.toNat = true := by
      intro e he
      have := h4 e he
      unfold entOk at this
      split at this
      · rename_i k t x u e1 e2
        simp only [Bool.and_eq_true, decide_eq_true_eq, beq_iff_eq] at this
        exact ⟨k, t, u, e1, this.2.2.2 ▸ e2, this.1, this.2.1, this.2.2.1⟩
      · cases this
    refine ⟨hd, es.toList.map entKv, ⟨_, es, ep, ho, ⟨eq_of_beq h1, eq_of_beq h2, eq_of_beq h3⟩, rfl, ?_, ?_, h5⟩, ?_, ?_⟩
    · intro e he
      obtain ⟨k, t, u, e1, e2, e3, e4, e5⟩ := ok e (by simpa using he)
      exact ⟨k, by rw [e1]; exact intKind_is prog w k t, e3⟩
    · have : ∀ l : List DictEntry, (∀ e ∈ l, e ∈ es.toList) → Pairs (intKind prog w) l (l.map entKv) := by
        intro l
        induction l with
        | nil => intro _; exact .nil
        | cons e l ih =>
          intro hl
          obtain ⟨k, t, u, e1, e2, e3, e4, e5⟩ := ok e (hl e (.head _))
          refine .cons ?_ rfl (ih fun e' he' => hl e' (.tail _ he'))
          rw [e1]; show (intKind prog w).is (entKv e).1 _ = true
          rw [show (entKv e).1 = k by simp [entKv, e1]]; exact intKind_is prog w k t
      exact this _ fun _ h => h
    · intro c hc
      have hm : c ∈ [40, 41, 91, 93, 123, 125, 63, 42, 43, 45, 124, 94, 36, 92, 46, 38, 126, 35, 32, 9, 10, 13, 11, 12] := by simpa [special] using hc
      have := h6 c hm
      rw [List.any_eq_true] at this
      obtain ⟨kv, hkv, hkc⟩ := this
      unfold valueAt
      cases hf : (es.toList.map entKv).find? (fun kv => decide (kv.1 = (c : Int))) with
      | none => exact absurd (by simpa using hkc) (by simpa using List.find?_eq_none.mp hf kv hkv)
      | some kv' =>
        have hm' := List.mem_of_find?_eq_some hf
        have hc' : kv'.1 = (c : Int) := by simpa using List.find?_some hf
        obtain ⟨e, he, rfl⟩ := List.mem_map.mp hm'
        obtain ⟨k, t, u, e1, e2, e3, e4, e5⟩ := ok e he
        have hk' : k = (c : Int) := by simpa [entKv, e1] using hc'
        subst hk'
        exact ⟨u, by simpa [entKv] using e2⟩
    · intro c hc
      unfold valueAt
      cases hf : (es.toList.map entKv).find? (fun kv => decide (kv.1 = (c : Int))) with
      | none => rfl
      | some kv' =>
        exfalso
        have hm' := List.mem_of_find?_eq_some hf
        have hc' : kv'.1 = (c : Int) := by simpa using List.find?_some hf
        obtain ⟨e, he, rfl⟩ := List.mem_map.mp hm'
        obtain ⟨k, t, u, e1, e2, e3, e4, e5⟩ := ok e he
        have hk' : k = (c : Int) := by simpa [entKv, e1] using hc'
        subst hk'
        simp [hc] at e5
  | _ => cases h4

end Mine
namespace Mine
open PySem.Builtin

/-- what a call is handed: a room, the written part, the top -/
structure Cx (K : Frag) (pv : Program) (lo : List Str) (mean : ExcName → Option Value) (mg mb : Str → Option Value) (A : Around) (h : Heap) (d : Nat) : Prop where
  hh : A.handled = none
  dep : A.depth + d < recursionLimit
  un : A.units + 8 * d < cLine
  K : K.In h
  T : Top pv lo mean mg mb h

section
variable {K : Frag} {pv : Program} {lo : List Str} {mean : ExcName → Option Value} {mg mb : Str → Option Value} {A : Around} {h h' : Heap} {d : Nat}
theorem Cx.keep (C : Cx K pv lo mean mg mb A h d) (k : ∀ b o, h.get? b = some o → h'.get? b = some o) : Cx K pv lo mean mg mb A h' d := ⟨C.hh, C.dep, C.un, C.K.keeps k, C.T.keeps k⟩
theorem Cx.le (C : Cx K pv lo mean mg mb A h d) {e : Nat} (k : e ≤ d) : Cx K pv lo mean mg mb A h e := ⟨C.hh, by have := C.dep; omega, by have := C.un; omega, C.K, C.T⟩
theorem Cx.in1 (C : Cx K pv lo mean mg mb A h (d + 1)) : Cx K pv lo mean mg mb A.in1 h d := ⟨C.hh, by have := C.dep; show A.depth + d < _; omega, by have := C.un; show A.units + 1 + 8 * d < _; omega, C.K, C.T⟩
theorem Cx.deeper (C : Cx K pv lo mean mg mb A h (d + 1)) (env : Env) : Cx K pv lo mean mg mb (A.deeper env) h d := ⟨C.hh, by have := C.dep; show A.depth + 1 + d < _; omega, by have := C.un; show A.units + 3 + 8 * d < _; omega, C.K, C.T⟩

variable {prog : Program} {w : World} {s : Shared}
theorem fn_call {f : Addr} {oc : Value} {od : Option Addr} {osl : Array (Option Value)} {name : Str} {params : Arguments} {body : List Stmt} {scope : Scope} {pm cd doc : Value} {args : List Value} {Q E : Value → Shared → Prop}
    (C : Cx K pv lo mean mg mb A s.heap (d + 1)) (ho : K.lookup f = some ⟨oc, od, .func (Calls.docDef name params body scope pm cd doc), osl⟩) (hcd : codeIn K cd name = true)
    (hbind : bindArgs (Calls.docDef name params body scope pm cd doc) ⟨args, []⟩ = pure ((params.args.map (·.arg)).zip args))
    (hloc : ∀ x ∈ (params.args.map (·.arg)).zip args, scope.names.lookup x.1 = some .local)
    (hb : ∀ L h₁ tk, Fr s.heap L h₁ (fun x => ((params.args.map (·.arg)).zip args).reverse.lookup x) → News s.heap L h₁ [] →
      wpAny (model prog w) (A.deeper (envOf name scope L f cd)) (execs body (envOf name scope L f cd))
        (fun fl s' => Q (match fl with | .ret v => v | _ => .none) s') (fun _ _ => False) { s with heap := h₁, toks := tk })
    (hco : scope.isCoroutine = false := by rfl) (hgen : scope.isGenerator = false := by rfl) (hk : scope.kind = .function := by rfl)
    (hcell : ∀ x ∈ scope.names, x.2 ≠ .cell := by decide) :
    wpAny (model prog w) A (call (.ref f) args) Q E s := by
  refine wpAny_call (call_pos_ret (by have := C.dep; omega) (C.K _ _ ho) rfl C.T.nolimit (codeRec_of C.K hcd) hbind hloc (fun h₁ F => ?_) hco hgen hk hcell)
  exact hb _ _ _ F News.nil

theorem fn_callC {f : Addr} {oc : Value} {od : Option Addr} {osl : Array (Option Value)} {name : Str} {params : Arguments} {body : List Stmt} {scope : Scope} {pm cd doc : Value} {args : List Value} {Q E : Value → Shared → Prop}
    (C : Cx K pv lo mean mg mb A s.heap (d + 1)) (ho : K.lookup f = some ⟨oc, od, .func (Calls.docDef name params body scope pm cd doc), osl⟩) (hcd : codeIn K cd name = true)
    (hbind : bindArgs (Calls.docDef name params body scope pm cd doc) ⟨args, []⟩ = pure ((params.args.map (·.arg)).zip args))
    (hkind : (((params.args.map (·.arg)).zip args).all fun y => scope.names.lookup y.1 == some .local || scope.names.lookup y.1 == some .cell) = true)
    (hnd : ((cellsFrom 0 scope.names []).map (·.1)).Nodup)
    (hb : ∀ L h₁ tk cells, L = s.heap.objs.size → Fr s.heap L h₁ (bindL (envOfC name scope L f cd).kindOf ((params.args.map (·.arg)).zip args) fun _ => none) → News s.heap L h₁ cells →
      CellsAre (bindC (envOfC name scope L f cd).kindOf ((params.args.map (·.arg)).zip args) fun _ => none) (cellsFrom (L + 1) scope.names []) cells →
      wpAny (model prog w) (A.deeper (envOfC name scope L f cd)) (execs body (envOfC name scope L f cd))
        (fun fl s' => Q (match fl with | .ret v => v | _ => .none) s') (fun _ _ => False) { s with heap := h₁, toks := tk })
    (hco : scope.isCoroutine = false := by rfl) (hgen : scope.isGenerator = false := by rfl) (hk : scope.kind = .function := by rfl) :
    wpAny (model prog w) A (call (.ref f) args) Q E s :=
  wpAny_call (call_cellsN_ret (by have := C.dep; omega) (C.K _ _ ho) rfl C.T.nolimit (codeRec_of C.K hcd) hbind (kindsX hkind _) hnd (fun h₁ tk cells F N Y => hb _ h₁ tk cells rfl F N Y) hco hgen hk)
end

section
open PyProof.V PySem.Spec
variable {prog : Program} {w : World} {A : Around} {E : Value → Shared → Prop} {s : Shared} {env : Env} {h₀ : Heap} {x : Str} {body : List Stmt} {Q : Flow → Shared → Prop}

/-- a loop over any iterator, its word by the turn's number -/
theorem iter_anyJ {I : Addr} {fp : List Addr} {n : Nat} {P : Nat → Value → Prop} {St : Nat → Heap → Prop} {m₀ : Str → Option Value} {news : List (Addr × Obj)} (J : Nat → (Str → Option Value) → List (Addr × Obj) → Prop)
    (W : Walks prog w A I fp [I] n P St) (hL : env.locals ∉ fp) (hI : h₀.get? I = none) (hnew : ∀ p ∈ news, p.1 ≠ I) (hst : St 0 s.heap) (hSt : ∀ i h, St i h → @LT.lt Nat _ I h.objs.size)
    (F : Fr h₀ env.locals s.heap m₀) (N : News h₀ env.locals s.heap news) (hj : J 0 m₀ news)
    (turn : ∀ i v m₁ news₁ h tk own, i < n → P i v → J i m₁ news₁ → (∀ p ∈ news₁, p.1 ≠ I) → (∀ p ∈ own, p.1 ∈ fp) → @LT.lt Nat _ I h.objs.size → Fr h₀ env.locals h (fun y => if y = x then some v else m₁ y) → News h₀ env.locals h (news₁ ++ own) →
      wpAny (model prog w) A (execs body env) (LoopStepV h₀ env.locals [I] own (J (i + 1)) { s with heap := h, toks := tk } (fun v s' => Q (.ret v) s') fun s' => Q .next s') E { s with heap := h, toks := tk })
    (done : ∀ m₁ news₁ h tk, J n m₁ news₁ → (∀ p ∈ news₁, p.1 ≠ I) → Fr h₀ env.locals h m₁ → News h₀ env.locals h news₁ → Q .next { s with heap := h, toks := tk }) :
    LoopAtV prog w A h₀ env x body Q E (.ref I) s := by
  refine ⟨I, fp, [I], n, P, St, m₀, news, J, rfl, W, hL, fun b hb => by rw [List.mem_singleton.mp hb]; exact hI, fun p hp hq => hnew p hp (List.mem_singleton.mp hq), hst, F, N, hj, ?_, ?_⟩
  · rintro i v m₁ news₁ s₁ own ⟨h, tk, rfl⟩ hi hP hJ hoff hown hget hback hst' F₁ N₁
    exact turn i v m₁ news₁ h tk own hi hP hJ (fun p hp e => hoff p hp (List.mem_singleton.mpr e)) hown (hSt _ _ hst') F₁ (fun p hp => N₁ p ((List.mem_append.mp hp).elim (List.mem_append_right _) (List.mem_append_left _)))
  · intro h' tk m' news' F' N' hoff hJ
    exact done m' news' h' tk hJ (fun p hp e => hoff p hp (List.mem_singleton.mpr e)) F' N'

theorem iter_rangeJ {r : Addr} {a₀ b₀ : Int} {t₀ u₀ v₀ : Tok} {n : Nat} {m₀ : Str → Option Value} {news : List (Addr × Obj)} (J : Nat → (Str → Option Value) → List (Addr × Obj) → Prop)
    (hh : A.handled = none) (hr : IsRange s.heap r a₀ b₀ 1 t₀ u₀ v₀) (hsmall : Builtin.Range.small a₀ b₀ 1 = true) (hn : Builtin.Range.rangeSize a₀ b₀ 1 = (n : Int)) (F : Fr h₀ env.locals s.heap m₀) (N : News h₀ env.locals s.heap news) (hj : J 0 m₀ news)
    (turn : ∀ i t m₁ news₁ h tk I own, i < n → J i m₁ news₁ → (∀ p ∈ news₁, p.1 ≠ I) → (∀ p ∈ own, p.1 = I) → @LT.lt Nat _ I h.objs.size → Fr h₀ env.locals h (fun y => if y = x then some (.int (a₀ + (i : Int)) t) else m₁ y) → News h₀ env.locals h (news₁ ++ own) →
      wpAny (model prog w) A (execs body env) (LoopStepV h₀ env.locals [I] own (J (i + 1)) { s with heap := h, toks := tk } (fun v s' => Q (.ret v) s') fun s' => Q .next s') E { s with heap := h, toks := tk })
    (done : ∀ m₁ news₁ h tk, J n m₁ news₁ → Fr h₀ env.locals h m₁ → News h₀ env.locals h news₁ → Q .next { s with heap := h, toks := tk }) :
    wpAny (model prog w) A (pyIter (.ref r)) (fun it s₂ => LoopAtV prog w A h₀ env x body Q E it s₂) E s := by
  refine wpAny_pyIter_range hr hsmall ?_
  have W : Walks prog w A s.heap.objs.size [s.heap.objs.size] [s.heap.objs.size] n (fun i v => i < n ∧ ∃ t, v = .int (a₀ + i * 1) t)
      (fun i h => IsRangeIter h s.heap.objs.size (a₀ + (i : Nat) * 1) ((n : Int) - (i : Nat)) 1) := (Walks.range hh _ a₀ 1 n).bound
  refine iter_anyJ J W ?_ (next_is_new F) ?_ (by show IsRangeIter _ _ _ _ _; rw [hn]; simpa using Heap.get?_push_size _ rfl) (fun i h st => Heap.lt_size st) (F.push _) (fun p hp => ⟨Heap.get?_push_of_some _ (N p hp).1, (N p hp).2⟩) hj ?_ ?_
  · intro hm
    exact absurd F.ns.lt ((List.mem_singleton.mp hm) ▸ Nat.lt_irrefl _)
  · intro p hp hI
    exact absurd (Heap.lt_size (N p hp).1) (hI ▸ Nat.lt_irrefl _)
  · rintro i v m₁ news₁ h tk own hi ⟨_, t, rfl⟩ hJ hoff hown hlt F₁ N₁
    rw [Int.mul_one] at F₁
    exact turn i t m₁ news₁ h tk _ own hi hJ hoff (fun p hp => List.mem_singleton.mp (hown p hp)) hlt F₁ N₁
  · intro m₁ news₁ h tk hJ _ F₁ N₁
    exact done m₁ news₁ h tk hJ F₁ N₁
end

theorem item_list {prog : Program} {w : World} {A : Around} {E : Value → Shared → Prop} {s : Shared} {value slice : PySem.Expr} {l : Addr} {vs : List Value} {k : Int} {u : Tok} {v : Value} {Q : Value → Shared → Prop}
    (hl : s.heap.IsList l vs.toArray) (h0 : 0 ≤ k) (hhi : k < 2 ^ 63) (hx : vs[k.toNat]? = some v) (h : Q v s)
    (hs : subscripted slice false (.ref l) (.int k u) = operate [.ref l, .int k u] (getItem (.ref l) (.int k u)) := by with_unfolding_all rfl) :
    wpAny (model prog w) A (subscriptTail value slice (.ref l) (.int k u)) Q E s :=
  tail_any hl.typeIs slot_list_getitem.lookup (wpAny_getItem_list hl h0 hhi (by simpa using hx) h) hs

section
variable {prog : Program} {w : World} {A : Around} {E : Value → Shared → Prop} {s : Shared} {h₀ : Heap} {L D : Addr} {m : Str → Option Value} {rest : List (Addr × Obj)} {vs : List Value} {n : Nat}
theorem set_list {k : Int} {t : Tok} {v : Value} {Q : Unit → Shared → Prop} (F : Fr h₀ L s.heap m) (N : News h₀ L s.heap ((D, W.listOf vs.toArray n) :: rest)) (hr : ∀ p ∈ rest, p.1 ≠ D) (h0 : 0 ≤ k) (hfit : k < 2 ^ 63) (hk : k < vs.length)
    (h : ∀ h', Fr h₀ L h' m → News h₀ L h' ((D, W.listOf (vs.set k.toNat v).toArray n) :: rest) → Q () { s with heap := h' }) : wpAny (model prog w) A (setItem (.ref D) (.int k t) v) Q E s := by
  have z := N (D, W.listOf vs.toArray n) (.head _)
  refine ki_setAt z.1 h0 hfit (by simpa using hk) (h _ (F.change (Heap.SameBut.update ..) z.2.1 z.2.2) (ki_turn (pre := []) (post := rest) (n' := n) _ N (fun _ h => nomatch h) hr ?_ ?_))
  · simp
  · simp
theorem set_list_neg {k : Int} {t : Tok} {v : Value} {Q : Unit → Shared → Prop} (F : Fr h₀ L s.heap m) (N : News h₀ L s.heap ((D, W.listOf vs.toArray n) :: rest)) (hr : ∀ p ∈ rest, p.1 ≠ D) (h0 : k < 0) (hfit : -(2 ^ 63) ≤ k) (hk : -(vs.length : Int) ≤ k)
    (h : ∀ h', Fr h₀ L h' m → News h₀ L h' ((D, W.listOf (vs.set (k + vs.length).toNat v).toArray n) :: rest) → Q () { s with heap := h' }) : wpAny (model prog w) A (setItem (.ref D) (.int k t) v) Q E s := by
  have z := N (D, W.listOf vs.toArray n) (.head _)
  refine ki_setBack z.1 h0 (by simpa using hk) hfit (h _ (F.change (Heap.SameBut.update ..) z.2.1 z.2.2) (ki_turn (pre := []) (post := rest) (n' := n) _ N (fun _ h => nomatch h) hr ?_ ?_))
  · simp
  · simp
end

theorem item_list_neg {prog : Program} {w : World} {A : Around} {E : Value → Shared → Prop} {s : Shared} {value slice : PySem.Expr} {l : Addr} {vs : List Value} {k : Int} {u : Tok} {v : Value} {Q : Value → Shared → Prop}
    (hl : s.heap.IsList l vs.toArray) (h0 : k < 0) (hfit : -(2 ^ 63) ≤ k) (hk : -(vs.length : Int) ≤ k) (hx : vs[(k + vs.length).toNat]? = some v) (h : Q v s)
    (hs : subscripted slice false (.ref l) (.int k u) = operate [.ref l, .int k u] (getItem (.ref l) (.int k u)) := by with_unfolding_all rfl) :
    wpAny (model prog w) A (subscriptTail value slice (.ref l) (.int k u)) Q E s :=
  tail_any hl.typeIs slot_list_getitem.lookup (wpAny_getItem_list_neg hl h0 (by simpa using hk) hfit (by simpa using hx) h) hs
theorem upd_upd (x : Str) (u v : Option Value) (m₀ : Str → Option Value) : (fun y => if y = x then v else (fun y => if y = x then u else m₀ y) y) = fun y => if y = x then v else m₀ y := by
  funext y
  by_cases h : y = x <;> simp [h]
theorem sum_le_mul {l : List Nat} {b : Nat} (h : ∀ x ∈ l, x ≤ b) : l.sum ≤ l.length * b := by
  induction l with
  | nil => simp
  | cons a l ih =>
    have h1 := h a (.head _)
    have h2 := ih fun x hx => h x (.tail _ hx)
    rw [List.sum_cons, List.length_cons, Nat.add_mul, Nat.one_mul]; omega
theorem strsAre_set {vs : List Value} {ss : List Str} (h : StrsAre vs ss) : ∀ (i : Nat) (y : Str) (t : Tok), StrsAre (vs.set i (.str y t)) (ss.set i y) := by
  induction h with
  | nil => intro i y t; exact .nil
  | cons z u _ ih =>
    intro i y t
    cases i with
    | zero => exact .cons _ _ (by assumption)
    | succ i => exact .cons _ _ (ih i y t)

section
variable {prog : Program} {w : World} {A : Around} {E : Value → Shared → Prop} {s : Shared} {h₀ : Heap} {L D : Addr} {m : Str → Option Value} {rest : List (Addr × Obj)} {vs : List Value} {ss : List Str} {n : Nat}
theorem set_strs {k : Int} {t : Tok} {y : Str} {u : Tok} {Q : Unit → Shared → Prop} (hvs : StrsAre vs ss) (F : Fr h₀ L s.heap m) (N : News h₀ L s.heap ((D, W.listOf vs.toArray n) :: rest)) (hr : ∀ p ∈ rest, p.1 ≠ D) (h0 : 0 ≤ k) (hfit : k < 2 ^ 63) (hk : k < ss.length)
    (h : ∀ h' vs', StrsAre vs' (ss.set k.toNat y) → Fr h₀ L h' m → News h₀ L h' ((D, W.listOf vs'.toArray n) :: rest) → Q () { s with heap := h' }) : wpAny (model prog w) A (setItem (.ref D) (.int k t) (.str y u)) Q E s :=
  set_list F N hr h0 hfit (by rw [hvs.length]; exact hk) fun h' F' N' => h h' _ (strsAre_set hvs _ _ _) F' N'
theorem set_strs_neg {k : Int} {t : Tok} {y : Str} {u : Tok} {Q : Unit → Shared → Prop} (hvs : StrsAre vs ss) (F : Fr h₀ L s.heap m) (N : News h₀ L s.heap ((D, W.listOf vs.toArray n) :: rest)) (hr : ∀ p ∈ rest, p.1 ≠ D) (h0 : k < 0) (hfit : -(2 ^ 63) ≤ k) (hk : -(ss.length : Int) ≤ k)
    (h : ∀ h' vs', StrsAre vs' (ss.set (k + ss.length).toNat y) → Fr h₀ L h' m → News h₀ L h' ((D, W.listOf vs'.toArray n) :: rest) → Q () { s with heap := h' }) : wpAny (model prog w) A (setItem (.ref D) (.int k t) (.str y u)) Q E s :=
  set_list_neg F N hr h0 hfit (by rw [hvs.length]; exact hk) fun h' F' N' => h h' _ (by rw [hvs.length]; exact strsAre_set hvs _ _ _) F' N'
end

def Hid (P : Prop) : Prop := P
theorem Hid.mk {P : Prop} (h : P) : Hid P := h
theorem Hid.out {P : Prop} (h : Hid P) : P := h
theorem lookup_cons_if (y a : Str) (v : Value) (l : List (Str × Value)) : List.lookup y ((a, v) :: l) = if y = a then some v else List.lookup y l := by
  rw [List.lookup_cons]
  by_cases h : y = a
  · subst h; simp
  · have : (y == a) = false := by simpa using h
    rw [this, if_neg h]
theorem upd_new (x : Str) (m₀ : Str → Option Value) (h : m₀ x = none) : m₀ = fun y => if y = x then none else m₀ y := by
  funext y
  by_cases e : y = x
  · subst e; simp [h]
  · simp [e]

theorem range_small {a b : Int} (h1 : -1000000 ≤ a) (h2 : a ≤ 1000000) (h3 : -1000000 ≤ b) (h4 : b ≤ 1000000) : Builtin.Range.small a b 1 = true := by
  have fit : ∀ i : Int, -3000000 ≤ i → i ≤ 3000000 → Builtin.Range.rangeFitsLong i = true := by
    intro i h1 h2
    simp only [Builtin.Range.rangeFitsLong, Bool.and_eq_true, decide_eq_true_eq]
    omega
  simp only [Builtin.Range.small, rangeSize_nat, fit a (by omega) (by omega), fit b (by omega) (by omega), fit 1 (by omega) (by omega), fit ((b - a).toNat : Int) (by omega) (by omega), fit (b + (1 - 1)) (by omega) (by omega)]
  simp

def overs (cs : List Str) (u m₀ : Str → Option Value) (y : Str) : Option Value := match cs with
  | [] => m₀ y
  | c :: cs => if y = c then u c else overs cs u m₀ y
theorem overs_eq {cs : List Str} {m₁ m₀ : Str → Option Value} (h : ∀ y, y ∉ cs → m₁ y = m₀ y) : m₁ = overs cs m₁ m₀ := by
  funext y
  have key : ∀ cs' : List Str, (y ∉ cs' → m₁ y = m₀ y) → m₁ y = overs cs' m₁ m₀ y := by
    intro cs'
    induction cs' with
    | nil => intro h; exact h (by simp)
    | cons c cs' ih =>
      intro h
      show _ = if y = c then m₁ c else overs cs' m₁ m₀ y
      by_cases e : y = c
      · rw [if_pos e, e]
      · rw [if_neg e]; exact ih fun hn => h (by simp [e, hn])
  exact key cs (h y)
section
open PyProof.V PySem.Spec
variable {prog : Program} {w : World} {A : Around} {E : Value → Shared → Prop} {s : Shared} {env : Env} {h₀ : Heap} {x : Str} {body : List Stmt} {Q : Flow → Shared → Prop}
theorem iter_rangeK {r : Addr} {a₀ b₀ : Int} {t₀ u₀ v₀ : Tok} {m₀ : Str → Option Value} {news : List (Addr × Obj)} (n : Nat) (cs : List Str) (J : Nat → List (Addr × Obj) → Prop)
    (hh : A.handled = none) (hr : IsRange s.heap r a₀ b₀ 1 t₀ u₀ v₀) (hsmall : Builtin.Range.small a₀ b₀ 1 = true) (hn : Builtin.Range.rangeSize a₀ b₀ 1 = (n : Int)) (F : Fr h₀ env.locals s.heap m₀) (N : News h₀ env.locals s.heap news) (hj : J 0 news)
    (turn : ∀ i t u news₁ h tk I own, i < n → J i news₁ → (∀ p ∈ news₁, p.1 ≠ I) → (∀ p ∈ own, p.1 = I) → @LT.lt Nat _ I h.objs.size → Fr h₀ env.locals h (fun y => if y = x then some (.int (a₀ + (i : Int)) t) else overs cs u m₀ y) → News h₀ env.locals h (news₁ ++ own) →
      wpAny (model prog w) A (execs body env) (LoopStepV h₀ env.locals [I] own (fun m news => (∀ y, y ∉ x :: cs → m y = m₀ y) ∧ J (i + 1) news) { s with heap := h, toks := tk } (fun v s' => Q (.ret v) s') fun s' => Q .next s') E { s with heap := h, toks := tk })
    (done : ∀ u news₁ h tk, J n news₁ → Fr h₀ env.locals h (overs (x :: cs) u m₀) → News h₀ env.locals h news₁ → Q .next { s with heap := h, toks := tk }) :
    wpAny (model prog w) A (pyIter (.ref r)) (fun it s₂ => LoopAtV prog w A h₀ env x body Q E it s₂) E s := by
  refine iter_rangeJ (fun i m news => (∀ y, y ∉ x :: cs → m y = m₀ y) ∧ J i news) hh hr hsmall hn F N ⟨fun _ _ => rfl, hj⟩ ?_ ?_
  · rintro i t m₁ news₁ h tk I own hi ⟨hm, hJ⟩ hoff hown hlt F₁ N₁
    have e : (fun y => if y = x then some (Value.int (a₀ + (i : Int)) t) else m₁ y) = fun y => if y = x then some (Value.int (a₀ + (i : Int)) t) else overs cs m₁ m₀ y := by
      have e1 := overs_eq hm
      funext y
      by_cases hy : y = x
      · simp [hy]
      · simp only [if_neg hy]
        rw [e1]
        show (if y = x then m₁ x else overs cs m₁ m₀ y) = overs cs (overs (x :: cs) m₁ m₀) m₀ y
        rw [if_neg hy, ← e1]
    rw [e] at F₁
    exact turn i t m₁ news₁ h tk I own hi hJ hoff hown hlt F₁ N₁
  · rintro m₁ news₁ h tk ⟨hm, hJ⟩ F₁ N₁
    rw [overs_eq hm] at F₁
    exact done m₁ news₁ h tk hJ F₁ N₁
end
end Mine
namespace Mine
open PySem.Builtin PyProof.V PySem.Spec

theorem intsAre_of_filter {n : Nat} (pz : Nat → Bool) (p : Value → Bool) (hp : ∀ (i : Nat) t, p (.int i t) = pz i) {vs ys : List Value} (hlen : vs.length = n) (hP : ∀ (j : Nat) (v : Value), vs[j]? = some v → ∃ t, v = .int (j : Int) t)
    (hF : Paired (fun v y => y = v) (vs.filter p) ys) : IntsAre ys (((List.range n).filter pz).map fun (i : Nat) => (i : Int)) := by
  have e : ys = vs.filter p := by
    have : ∀ {a b : List Value}, Paired (fun v y => y = v) a b → b = a := by
      intro a b h
      induction h with
      | nil => rfl
      | cons h _ ih => rw [h, ih]
    exact this hF
  subst e
  clear hF
  have key : ∀ (l : List Value) (k : Nat), (∀ (j : Nat) (v : Value), l[j]? = some v → ∃ t, v = .int ((k + j : Nat) : Int) t) → IntsAre (l.filter p) (((List.range' k l.length).filter pz).map fun (i : Nat) => (i : Int)) := by
    intro l
    induction l with
    | nil => intro k _; exact .nil
    | cons v l ih =>
      intro k hl
      obtain ⟨t, rfl⟩ := hl 0 v rfl
      have ih' := ih (k + 1) fun j v hj => by
        obtain ⟨t, e⟩ := hl (j + 1) v (by simpa using hj)
        exact ⟨t, by rw [e, show k + (j + 1) = k + 1 + j by omega]⟩
      rw [List.length_cons, List.range'_succ, List.filter_cons, List.filter_cons]
      have e1 : p (.int ((k + 0 : Nat) : Int) t) = pz k := hp k t
      rw [e1]
      cases pz k with
      | true => exact .cons _ _ ih'
      | false => exact ih'
  have := key vs 0 fun j v hj => by obtain ⟨t, e⟩ := hP j v hj; exact ⟨t, by rw [e, Nat.zero_add]⟩
  rw [hlen, ← List.range_eq_range'] at this
  exact this

section
variable {prog : Program} {w : World} {A : Around} {E : Value → Shared → Prop} {s : Shared} {env : Env} {h₀ : Heap}
/-- [x for x in range(n) if c], stored -/
theorem asg_range_filter {x y : Str} {px py px' : Pos} {iter c : PySem.Expr} {scope : Scope} {cl : List (Str × Addr)} {pos spos : Pos} {Q : Flow → Shared → Prop} (pz : Nat → Bool) (n : Nat)
    (hh : A.handled = none)
    (hsw : swapsWith (.ListComp (.Name x px') [⟨.Name x px, iter, [c], 0⟩] scope pos) (some (.Name y py)) spos.line env = pure true)
    (hclos : closureFor scope env = pure cl) (hcell : ∀ z ∈ scope.names, z.2 ≠ .cell) (hkind : scope.kind = .function)
    (hnames : ∀ z ∈ scope.names, z.2 = .local → scope.names.lookup z.1 = some .local) (hx : scope.names.lookup x = some .local)
    (hy : env.kindOf y = some .local) (hp : (env.scope.kind == .class || (env.scope.kind == .module && env.locals != env.globals)) = false) (hd : (x == ("__debug__" : Str)) = false) (hn : n ≤ 1000000)
    (h : wpAny (model prog w) A (eval iter env) (fun xv s₁ => ∃ r t u v m news, xv = .ref r ∧ IsRange s₁.heap r 0 (n : Int) 1 t u v ∧ Fr h₀ env.locals s₁.heap m ∧ News h₀ env.locals s₁.heap news ∧
      (∀ C s₃ m₃ E' (i : Nat) t, i < n → s₃.heap.Ns C m₃ → m₃ x = some (.int (i : Int) t) → (∀ b o, s₁.heap.get? b = some o → s₃.heap.get? b = some o) →
        wpAny (model prog w) A (isTrue c (compEnvC scope cl C env) (eval c (compEnvC scope cl C env))) (fun ok s₄ => ok = pz i ∧ Keeps s₃ s₄) E' s₃) ∧
      (∀ D h' tk ys c, Fr h₀ env.locals h' (fun z => if z = y then some (.ref D) else m z) → News h₀ env.locals h' ((D, W.listOf (List.toArray ys) c) :: news) → (∀ p ∈ news, p.1 ≠ D) →
        IntsAre ys (((List.range n).filter pz).map fun (i : Nat) => (i : Int)) → Q .next { s₁ with heap := h', toks := tk })) E s)
    (hs : ∀ x, foldedSetIterable iter env x = pure x := by intro _; rfl) :
    wpAny (model prog w) A (exec (.Assign [.Name y py] (.ListComp (.Name x px') [⟨.Name x px, iter, [c], 0⟩] scope pos) spos) env) Q E s := by
  refine wpAny_Assign_ListComp_free (fun v => match v with | .int k _ => pz k.toNat | _ => false) (fun v y => y = v) hsw hclos hcell hkind hnames hx hy hp (wpAny_mono h (fun xv s₁ h₁ => ?_) fun _ _ e => e) hs
  obtain ⟨r, t, u, v, m, news, rfl, hr, F, N, ht, hQ⟩ := h₁
  have hsz : Builtin.Range.rangeSize 0 (n : Int) 1 = (n : Int) := by rw [rangeSize_nat]; omega
  refine wpAny_pyIter_range hr (range_small (by omega) (by omega) (by omega) (by omega)) ?_
  have W : Walks prog w A s₁.heap.objs.size [s₁.heap.objs.size] [s₁.heap.objs.size] n (fun i v => i < n ∧ ∃ t, v = .int (0 + i * 1) t)
      (fun i h => IsRangeIter h s₁.heap.objs.size (0 + (i : Nat) * 1) ((n : Int) - (i : Nat)) 1) := (Walks.range hh _ 0 1 n).bound
  have hLI : env.locals ≠ s₁.heap.objs.size := Nat.ne_of_lt F.ns.lt
  refine ⟨_, _, _, n, _, _, m, rfl, W, by rw [sizeLine_eq]; omega, (by show IsRangeIter _ _ _ _ _; rw [hsz]; simpa using Heap.get?_push_size _ rfl), ?_, ?_, F.ns.push _, ⟨?_, ?_⟩, ?_⟩
  · intro b hb; rw [List.mem_singleton.mp hb, Heap.size_push]; exact Nat.lt_succ_self _
  · intro hm; exact hLI (List.mem_singleton.mp hm)
  · rintro C i v s₃ m₃ E' hC ⟨hi, t', rfl⟩ hn₃ hx₃ hk _
    have e0 : (0 + (i : Int) * 1) = (i : Int) := by omega
    rw [e0] at hx₃ ⊢
    have hk' : ∀ b o, s₁.heap.get? b = some o → s₃.heap.get? b = some o := fun b o e => hk b o (fun hm => absurd (Heap.lt_size e) (by rw [List.mem_singleton.mp hm]; exact Nat.lt_irrefl _)) (Heap.get?_push_of_some _ e)
    refine wpAny_tests_one (wpAny_mono (ht C s₃ m₃ E' i t' hi hn₃ hx₃ hk') (fun ok s₄ hq => ⟨?_, hq.2⟩) fun _ _ e => e)
    rw [hq.1]; show pz i = pz (i : Int).toNat; rw [Int.toNat_natCast]
  · rintro C i v s₃ m₃ E' hC _ _ hn₃ hx₃ hk _
    have hkd : (compEnvC scope cl C env).kindOf x = some .local := lookup_relabel_local hx
    have hk3 : (compEnvC scope cl C env).scope.kind = .function := by simp [compEnvC, relabel, hkind]
    exact wpAny_Name (wpAny_loadName_local hk3 hkd hn₃ hx₃ ⟨rfl, ⟨s₃.heap, s₃.toks, rfl, fun _ _ e => e⟩⟩) hd
  · intro D h' tk ys vs hD hl hpl hlen hP hF hns hk
    obtain ⟨c, hpl⟩ := hpl
    have hk' : ∀ b o, b ≠ env.locals → s₁.heap.get? b = some o → h'.get? b = some o := fun b o hb e => hk b o hb (fun hm => absurd (Heap.lt_size e) (by rw [List.mem_singleton.mp hm]; exact Nat.lt_irrefl _)) (Heap.get?_push_of_some _ e)
    have hold : ∀ b o, s₁.heap.get? b = some o → b ≠ D := fun b o e hb => by
      have := Heap.get?_push_of_some { cls := .type "range_iterator", data := .fields #[rawInt 0, rawInt (Builtin.Range.rangeSize 0 (n : Int) 1), rawInt 1] } e
      rw [hb] at this
      rw [show (s₁.heap.push { cls := .type "range_iterator", data := .fields #[rawInt 0, rawInt (Builtin.Range.rangeSize 0 (n : Int) 1), rawInt 1] }).get? D = none from hD] at this
      cases this
    have hDL : D ≠ env.locals := fun e => by
      obtain ⟨oL, _, _, hoL, _⟩ := F.ns
      exact hold _ _ hoL e.symm
    have F' : Fr h₀ env.locals h' (fun z => if z = y then some (.ref D) else m z) := ⟨hns, fun b o e => hk' b o (Nat.ne_of_lt (Nat.lt_of_lt_of_le (Heap.lt_size e) F.above)) (F.keep b o e), F.above⟩
    refine hQ D h' tk ys.toList c F' ?_ (fun p hp e => hold _ _ (N p hp).1 e) (intsAre_of_filter pz _ (fun i t => by show pz (i : Int).toNat = pz i; rw [Int.toNat_natCast]) hlen (fun j v hj => by obtain ⟨_, t, e⟩ := hP j v hj; exact ⟨t, by rw [e]; congr 1; omega⟩) hF)
    intro p hp
    rcases List.mem_cons.mp hp with rfl | hp
    · refine ⟨hpl, hDL, ?_⟩
      cases q : h₀.get? D with
      | none => rfl
      | some o => exact absurd rfl (hold _ _ (F.keep _ _ q))
    · exact ⟨hk' _ _ (N p hp).2.1 (N p hp).1, (N p hp).2⟩
end
end Mine
set_option maxHeartbeats 8000000 in
open_top hd3 for PySem.Challenge.rw_kn0088_03
namespace Mine
open PySem.Builtin
theorem fillK {P : Prop} (h : PySem.Challenge.rw_kn0088_03 = PySem.Challenge.rw_kn0088_03 → hd3.heap_39 = hd3.heap_39 → P) : P := h rfl rfl

set_option maxHeartbeats 8000000 in
theorem escape_spec {prog : Program} {w : World} {mean : ExcName → Option Value} {mg mb : Str → Option Value} {A : Around} {s : Shared} {x : Str} {t : Tok} {Q E : Value → Shared → Prop}
    (C : Cx (hd3.heap_39 w.params) hd3.view_39 (looseW hd3.view_39 [Str.ofString "_special_chars_map"]) mean mg mb A s.heap 2) (hx : x.length ≤ 1000000)
    (hQ : ∀ h' tk tk', s.heap.StaysIn h' → Q (.str (esc x) tk) { s with heap := h', toks := tk' }) : wpAny (model prog w) A (call (.ref 26) [.str x t]) Q E s := by
  refine fillK ?_
  k_fill
  intro _ _
  refine fn_call C (by k_is) (by k_is) rfl (locs rfl) ?_
  intro L h₁ tk hF hN
  have X := C.K
  have T := C.T
  k_steps
  refine GM.of (.str x t) (typeIs_str _ _ _) PySem.F.slot_str_translate PySem.F.type_str_translate GM.noRef ?_
  k_steps
  have TT : TransTab prog w s.heap 16 := transTab_of (by decide) (X 16 _ (by k_is)) (by kernel_rfl)
  refine call_translate C.hh (TT.keep hF.keep) hx fun h' tk tk' st => ?_
  dsimp only
  exact hQ h' _ _ fun b o e => st b o (hF.keep b o e)
end Mine
namespace Mine
open PySem.Builtin

theorem leN {a b : Nat} (h : a ≤ b) : a ≤ b := h
theorem fr_but {h₀ h h' : Heap} {L : Addr} {m : Str → Option Value} {wr : List Addr} (hF : Fr h₀ L h m) (k : ∀ b o, b ∉ wr → h.get? b = some o → h'.get? b = some o) (hL : L ∉ wr) (hw : ∀ b ∈ wr, h₀.objs.size ≤ b) : Fr h₀ L h' m :=
  ⟨hF.ns.at' fun o e => k L o hL e, fun b o e => k b o (fun hb => absurd (Heap.lt_size e) (Nat.not_lt.mpr (hw b hb))) (hF.keep b o e), hF.above⟩
theorem fr_keep {h₀ h h' : Heap} {L : Addr} {m : Str → Option Value} (hF : Fr h₀ L h m) (k : ∀ b o, h.get? b = some o → h'.get? b = some o) : Fr h₀ L h' m :=
  ⟨hF.ns.at' fun o e => k L o e, fun b o e => k b o (hF.keep b o e), hF.above⟩
theorem news_keep {h₀ h h' : Heap} {L : Addr} {news : List (Addr × Obj)} (hN : News h₀ L h news) (k : ∀ b o, h.get? b = some o → h'.get? b = some o) : News h₀ L h' news :=
  fun p hp => ⟨k _ _ (hN p hp).1, (hN p hp).2⟩
theorem news_one {h₀ h : Heap} {L a : Addr} {o : Obj} (ho : h.get? a = some o) (hL : a ≠ L) (ha : h₀.objs.size ≤ a) : News h₀ L h [(a, o)] := by
  intro p hp
  rw [List.mem_singleton.mp hp]
  refine ⟨ho, hL, ?_⟩
  cases q : h₀.get? a with
  | none => rfl
  | some o' => exact absurd (Heap.lt_size q) (Nat.not_lt.mpr ha)

theorem strs_of_items {acc : Array Value} {ss : List Str} (h : ItemsOf (fun i v => ∃ x t, ss[i]? = some x ∧ v = .str x t) acc ss.length) : StrsAre acc.toList ss := by
  obtain ⟨hsz, hi⟩ := h
  obtain ⟨l⟩ := acc
  simp only [List.size_toArray] at hsz
  have hi' : ∀ (j : Nat) (v : Value), l[j]? = some v → ∃ x t, ss[j]? = some x ∧ v = .str x t := fun j v e => hi j v (by simpa using e)
  clear hi
  induction l generalizing ss with
  | nil => cases ss with | nil => exact .nil | cons y ss => simp at hsz
  | cons v l ih =>
    cases ss with
    | nil => simp at hsz
    | cons y ss =>
      obtain ⟨x, t, e1, e2⟩ := hi' 0 v rfl
      cases e1
      subst e2
      exact .cons _ _ (ih (by simpa using hsz) fun j v e => by simpa using hi' (j + 1) v (by simpa using e))

section
variable {prog : Program} {w : World} {A : Around} {E : Value → Shared → Prop} {s : Shared}
/-- list(map object) -/
theorem call_list_map {e tup it l : Addr} {f : Value} {items : Array Value} {nt : Nat} {base : Heap} (P : Nat → Value → Prop) {Q : Value → Shared → Prop} (hh : A.handled = none)
    (he : IsMap s.heap e tup f) (ht : s.heap.get? tup = some { cls := .type "tuple", data := .seq #[.ref it] nt }) (hit : s.heap.IsListIter it l 0) (hl : s.heap.IsList l items) (st : base.StaysIn s.heap)
    (h1 : e ≠ it) (h2 : tup ≠ it) (h3 : l ≠ it) (hb : base.objs.size ≤ it)
    (hf : ∀ i x (s : Shared) (Q : Value → Shared → Prop) (E : Value → Shared → Prop), items[i]? = some x → base.StaysIn s.heap → (∀ v h' tk, P i v → s.heap.StaysIn h' → Q v { s with heap := h', toks := tk }) → wpAny (model prog w) A.in1.in1.in1 (call f [x]) Q E s)
    (hQ : ∀ h' tk acc c, (∀ b o, b ∉ [it] → s.heap.get? b = some o → h'.get? b = some o) → h'.get? s.heap.objs.size = some { cls := .type "list", dict := none, data := .seq acc c, slots := #[] } → ItemsOf P acc items.size →
      Q (.ref s.heap.objs.size) { s with heap := h', toks := tk }) (hn : items.size ≤ sizeLine) :
    wpAny (model prog w) A (call (.type "list") [.ref e]) Q E s := by
  refine call_list_iter map_no_len map_no_hint (by decide) (by decide) (Walks_map1 (A := A.in1.in1) hh (base := base) e tup it l f items nt P h1 h2 h3 hb hf) (fun i h st => ⟨_, st.2.1, rfl⟩) ⟨st, he, ht, hit, hl⟩ ?_ (by simp) hQ hn
  intro b hb'
  simp only [List.mem_append, List.mem_cons, List.mem_range, List.not_mem_nil, or_false] at hb'
  obtain ⟨ol, hol, _⟩ := hl
  obtain ⟨oi, hoi, _⟩ := hit
  have z1 := Heap.lt_size he
  have z2 := Heap.lt_size ht
  have z3 := Heap.lt_size hol
  have z4 := Heap.lt_size hoi
  rcases hb' with (rfl | rfl | rfl | rfl) | hb'
  · exact z1
  · exact z2
  · exact z4
  · exact z3
  · exact Nat.lt_of_lt_of_le hb' (Nat.le_of_lt (Nat.lt_of_le_of_lt hb z4))
end

def starS : Str := Str.ofString "*"
def pieces (x : Str) : List Str := Txt.split x (Str.ofString "*")
def wrap (p : Str) : Str := Str.ofString "(?>.*?" ++ p ++ Str.ofString ")"
def dotStar (p : Str) : Str := Str.ofString ".*" ++ p
def stepL (ss : List Str) (i : Nat) : List Str := ss.mapIdx fun j p => if 1 ≤ j ∧ j ≤ i then wrap p else p
theorem stepL_length (ss : List Str) (i : Nat) : (stepL ss i).length = ss.length := by simp [stepL]
theorem stepL_zero (ss : List Str) : stepL ss 0 = ss := by
  apply List.ext_getElem?
  intro j
  rw [stepL, List.getElem?_mapIdx]
  cases ss[j]? with
  | none => rfl
  | some y => simp; omega
theorem stepL_get {ss : List Str} {i : Nat} {y : Str} (h : ss[i + 1]? = some y) : (stepL ss i)[i + 1]? = some y := by
  rw [stepL, List.getElem?_mapIdx, h]
  have : ¬ (i + 1 ≤ i) := by omega
  simp [this]
theorem stepL_set {ss : List Str} {i : Nat} {y : Str} (h : ss[i + 1]? = some y) : (stepL ss i).set (i + 1) (wrap y) = stepL ss (i + 1) := by
  apply List.ext_getElem?
  intro j
  rw [List.getElem?_set, stepL_length]
  by_cases e : i + 1 = j
  · subst e
    have := (List.getElem?_eq_some_iff.mp h).1
    rw [if_pos rfl, if_pos this, stepL, List.getElem?_mapIdx, h]; simp
  · rw [if_neg e]
    simp only [stepL, List.getElem?_mapIdx]
    cases ss[j]? with
    | none => rfl
    | some z =>
      have : (1 ≤ j ∧ j ≤ i) ↔ (1 ≤ j ∧ j ≤ i + 1) := by omega
      simp [this]
def lastL (ss : List Str) : List Str := ss.set (ss.length - 1) (Str.ofString ".*" ++ (ss[ss.length - 1]?).getD ⟨#[]⟩)
def tp (x : Str) : Str := Txt.join (Str.ofString "") (lastL (stepL ((pieces x).map esc) ((pieces x).length - 2)))
theorem pieces_count (x : Str) : (pieces x).length ≤ x.length + 1 := by
  have h := split_weight x (Str.ofString "*") (by decide)
  unfold pieces
  omega
theorem pieces_pos (x : Str) : 1 ≤ (pieces x).length := by
  have h := split_len x 42
  have e : Str.ofString "*" = ⟨#[42]⟩ := by decide
  unfold pieces
  rw [e]
  have : (0 : Int) ≤ cnt 42 x.cps.toList := by
    generalize x.cps.toList = l
    induction l with
    | nil => exact Int.le_refl _
    | cons n l ih => rw [cnt_cons]; split <;> omega
  omega
theorem esc_length (x : Str) : (esc x).length ≤ 2 * x.length := by
  have := esc_len_le x.cps.toList
  show (esc x).cps.size ≤ 2 * x.cps.size
  simpa [esc] using this
theorem wrap_length (x : Str) : (wrap x).length = x.length + 7 := by
  unfold wrap
  rw [Str.length_append, Str.length_append]
  have h1 : (Str.ofString "(?>.*?").length = 6 := by decide
  have h2 : (Str.ofString ")").length = 1 := by decide
  omega
theorem stepL_le {ss : List Str} {b : Nat} (h : ∀ y ∈ ss, y.length ≤ b) (i : Nat) : ∀ y ∈ stepL ss i, y.length ≤ b + 7 := by
  intro y hy
  obtain ⟨j, hj⟩ := List.mem_iff_getElem?.mp hy
  rw [stepL, List.getElem?_mapIdx] at hj
  cases hz : ss[j]? with
  | none => rw [hz] at hj; cases hj
  | some z =>
    rw [hz] at hj
    have hb := h z (List.mem_of_getElem? hz)
    simp only [Option.map_some, Option.some.injEq] at hj
    split at hj
    · rw [← hj, wrap_length]; omega
    · rw [← hj]; omega
local macro_rules | `(tactic| walk_at "my steps") => `(tactic| repeat' (first | (k_unfold; (try dsimp only)) | ((fail_if_success (with_reducible show wpAny _ _ (pyIter _) _ _ _)); (fail_if_success (with_reducible show Exists _)); (first | walk1 | (dsimp only; walk1)); (try dsimp only))))

set_option maxHeartbeats 8000000 in
theorem tp_spec {prog : Program} {w : World} {mean : ExcName → Option Value} {mg mb : Str → Option Value} {A : Around} {s : Shared} {x : Str} {t : Tok} {Q E : Value → Shared → Prop}
    (C : Cx (hd3.heap_39 w.params) hd3.view_39 (looseW hd3.view_39 [Str.ofString "_special_chars_map"]) mean mg mb A s.heap 10) (hx : x.length ≤ 1000)
    (hQ : ∀ h' tk tk', s.heap.StaysIn h' → Q (.str (tp x) tk) { s with heap := h', toks := tk' }) : wpAny (model prog w) A (call (.ref 33) [.str x t]) Q E s := by
  refine fillK ?_
  k_fill
  intro _ _
  refine fn_call C (by k_is) (by k_is) rfl (locs rfl) ?_
  intro L h₁ tk hF hN
  have X := C.K
  have T := C.T
  walk_at "my steps"
  rename_i l hm k el sl hlen hIL hF' hN'
  refine call_map_list hIL fun h2 he ht hit hsz hk => ?_
  try dsimp only
  walk_at "my steps"
  try dsimp only at hsz hk hit ht he hIL
  have zL : @LT.lt Nat _ L hm.objs.size := hF'.ns.lt
  have zA : @LE.le Nat _ s.heap.objs.size L := hF'.above
  have zl : @LT.lt Nat _ h₁.objs.size hm.objs.size := by obtain ⟨o, ho, _⟩ := hIL; exact Heap.lt_size ho
  have hpl : pieces x = l.map (·.1) := el.symm
  refine call_list_map (base := s.heap) (fun i v => ∃ x' t, ((pieces x).map esc)[i]? = some x' ∧ v = .str x' t) C.hh he ht hit (hIL.at fun o e => hk _ o e) (fun b o e => hk b o (hF'.keep b o e)) (by refine neN ?_; omega) (by refine neN ?_; omega) (by refine neN ?_; omega) (leN (by omega)) ?_ ?_ ?_
  · intro i xv s1 Q1 E1 hi st1 hret
    have hi' : (strValues l)[i]? = some xv := by simpa using hi
    unfold strValues at hi'
    rw [List.getElem?_map] at hi'
    cases hp : l[i]? with
    | none => rw [hp] at hi'; cases hi'
    | some p =>
      rw [hp] at hi'
      cases hi'
      have hpm : p.1 ∈ l.map (·.1) := List.mem_map.mpr ⟨p, List.mem_of_getElem? hp, rfl⟩
      refine escape_spec ((((C.deeper _).in1.in1.in1).keep st1).le (by omega)) (Nat.le_trans (hlen _ hpm) (by omega)) fun h' tk tk' st => ?_
      exact hret _ h' tk' ⟨esc p.1, tk, by rw [hpl]; simp [hp], rfl⟩ st
  · intro h3 tk3 acc c3 hk3 hS3 hacc
    try dsimp only at hS3 ⊢
    have hss : StrsAre acc.toList ((pieces x).map esc) := strs_of_items (by
      have e : (strValues l).toArray.size = ((pieces x).map esc).length := by rw [hpl]; simp [strValues]
      rw [← e]; exact hacc)
    have F3 : Fr s.heap L h3 _ := fr_but (wr := [hm.objs.size]) (fr_keep hF' hk) hk3 (by rw [List.mem_singleton]; refine neN ?_; omega) (by intro b hb; rw [List.mem_singleton.mp hb]; exact leN (by omega))
    have N3 : News s.heap L h3 [(h2.objs.size, { cls := .type "list", dict := none, data := .seq acc c3, slots := #[] })] := news_one hS3 (by refine neN ?_; omega) (leN (by omega))
    clear hk3 hk hF' hN'
    have hlp : ((pieces x).map esc).length = acc.size := by rw [← hss.length, Array.length_toList]
    have hpn : (pieces x).length = acc.size := by rw [← hlp, List.length_map]
    have hssK := Hid.mk hss
    have hlacc : acc.size ≤ 1001 := by have := pieces_count x; omega
    have hlen1 : 1 ≤ acc.size := by have := pieces_pos x; omega
    have hel : ∀ y ∈ (pieces x).map esc, y.length ≤ 2000 := by
      intro y hy
      obtain ⟨z, hz, rfl⟩ := List.mem_map.mp hy
      have h1 := hlen z (by rw [← hpl]; exact hz)
      have h2 := esc_length z
      omega
    walk_at "my steps"
    rename_i h5 tk5 t5 u5 v5 hr5 F5 N5 k5

    have em := upd_new (Str.ofString "i") (fun y => if y = Str.ofString "parts" then some (Value.ref h2.objs.size) else List.lookup y [(Str.ofString "path", Value.str x t)]) rfl
    refine iter_rangeJ (n := acc.size - 2) (fun i m news => ∃ vs c u, m = (fun y => if y = Str.ofString "i" then u else (fun y => if y = Str.ofString "parts" then some (Value.ref h2.objs.size) else List.lookup y [(Str.ofString "path", Value.str x t)]) y) ∧ news = [(h2.objs.size, W.listOf (List.toArray vs) c)] ∧ StrsAre vs (stepL ((pieces x).map esc) i)) C.hh hr5 ?small ?size F5 N5 ⟨acc.toList, c3, none, em, by simp [W.listOf], by rw [stepL_zero]; exact hssK.out⟩ ?_ ?_
    case small => exact range_small (by omega) (by omega) (by rw [hlp]; omega) (by rw [hlp]; omega)
    case size => rw [rangeSize_nat, hlp]; omega
    · rintro i ti m₁ news₁ h6 tk6 I own hi ⟨vs, c, u, rfl, rfl, hvs⟩ hoff hown hI F6 N6
      rw [upd_upd] at F6
      try dsimp only
      walk_at "my steps"
      have hvl : vs.length = acc.size := by rw [hvs.length, stepL_length, hlp]
      obtain ⟨y, hy⟩ : ∃ y, ((pieces x).map esc)[i + 1]? = some y := ⟨_, List.getElem?_eq_getElem (by rw [hlp]; omega)⟩
      have hyl : y.length ≤ 2000 := hel y (List.mem_of_getElem? hy)
      obtain ⟨tv, hv⟩ := hvs.get (i + 1) y (stepL_get hy)
      refine item_list (News.isList (by k_asm) (by k_mem)) (by omega) (by omega) (by rw [show (1 + (i : Int)).toNat = i + 1 by omega]; exact hv) ?_
      walk_at "my steps"
      have hown' : ∀ p ∈ own, p.1 ≠ h2.objs.size := fun p hp e => hoff _ (.head _) ((hown p hp).symm.trans e).symm
      refine set_strs hvs F6 N6 hown' (by omega) (by omega) (by rw [stepL_length, hlp]; omega) fun h7 vs7 hvs7 F7 N7 => ?_
      rw [show (1 + (i : Int)).toNat = i + 1 by omega] at hvs7
      try dsimp only
      walk_at "my steps"
      refine LoopStepU.intro F7 (fun p hp => N7 p ?_) ?_ ⟨vs7, c, _, rfl, rfl, ?_⟩
      · rcases List.mem_append.mp hp with hp | hp
        · exact .tail _ hp
        · rw [List.mem_singleton.mp hp]; exact .head _
      · intro p hp
        rw [List.mem_singleton.mp hp, List.mem_singleton]
        exact hoff (h2.objs.size, W.listOf vs.toArray c) (.head _)
      · rw [← stepL_set hy]; exact hvs7
    · rintro m₁ news₁ h6 tk6 ⟨vs, c, u, rfl, rfl, hvs⟩ F6 N6
      try dsimp only
      walk_at "my steps"
      have hvl : vs.length = acc.size := by rw [hvs.length, stepL_length, hlp]
      obtain ⟨y, hy⟩ : ∃ y, (stepL ((pieces x).map esc) (acc.size - 2))[acc.size - 1]? = some y := ⟨_, List.getElem?_eq_getElem (by rw [stepL_length, hlp]; omega)⟩
      have hyl : y.length ≤ 2010 := by
        have := stepL_le hel (acc.size - 2) y (List.mem_of_getElem? hy)
        omega
      obtain ⟨tv, hv⟩ := hvs.get _ y hy
      refine item_list_neg (News.isList (by k_asm) (by k_mem)) (by omega) (by omega) (by omega) (by rw [hvl, show (-1 + (acc.size : Int)).toNat = acc.size - 1 by omega]; exact hv) ?_
      walk_at "my steps"
      refine set_strs_neg hvs F6 N6 (fun _ h => nomatch h) (by omega) (by omega) (by rw [stepL_length, hlp]; omega) fun h7 vs7 hvs7 F7 N7 => ?_
      rw [stepL_length, hlp, show (-1 + (acc.size : Int)).toNat = acc.size - 1 by omega] at hvs7
      try dsimp only
      walk_at "my steps"
      have hfin : (stepL ((pieces x).map esc) (acc.size - 2)).set (acc.size - 1) (Str.ofString ".*" ++ y) = lastL (stepL ((pieces x).map esc) ((pieces x).length - 2)) := by
        unfold lastL
        rw [stepL_length, hlp, hpn, hy]; rfl
      rw [hfin] at hvs7
      refine join_list (News.isList N7 (.head _)) hvs7 ?_ fun t' k => ?_
      · have hb : ∀ z ∈ (lastL (stepL ((pieces x).map esc) ((pieces x).length - 2))).map (·.length), z ≤ 2012 := by
          intro z hz
          obtain ⟨v, hv', rfl⟩ := List.mem_map.mp hz
          rw [← hfin] at hv'
          rcases List.mem_or_eq_of_mem_set hv' with h1 | rfl
          · have := stepL_le hel _ v h1; omega
          · rw [Str.length_append]
            have : (Str.ofString ".*").length = 2 := by decide
            omega
        have h1 := sum_le_mul hb
        have h2 : (lastL (stepL ((pieces x).map esc) ((pieces x).length - 2))).length = acc.size := by rw [lastL, List.length_set, stepL_length, hlp]
        have h3 : (Str.ofString "").length = 0 := by decide
        rw [List.length_map, h2] at h1
        rw [h2, h3]
        have : acc.size * 2012 ≤ 1001 * 2012 := Nat.mul_le_mul_right _ hlacc
        omega
      · exact hQ _ _ _ fun b o e => F7.keep b o e
  · rw [List.size_toArray, strValues, List.length_map, ← List.length_map (f := (·.1)), ← hpl, sizeLine_eq]
    have := pieces_count x
    omega
end Mine
namespace Mine

def spl : List Nat → List (List Nat)
  | [] => [[]]
  | c :: r => if c = 42 then [] :: spl r else match spl r with
    | p :: ps => (c :: p) :: ps
    | [] => [[c]]
theorem spl_cons (c : Nat) (r : List Nat) : spl (c :: r) = if c = 42 then [] :: spl r else match spl r with
    | p :: ps => (c :: p) :: ps
    | [] => [[c]] := rfl
theorem spl_ne (l : List Nat) : spl l ≠ [] := by
  cases l with
  | nil => simp [spl]
  | cons c r => unfold spl; split; · simp
                · split <;> simp
theorem spl_free : ∀ l : List Nat, ∀ p ∈ spl l, 42 ∉ p
  | [], p, h => by simp [spl] at h; subst h; simp
  | c :: r, p, h => by
    have ih := spl_free r
    unfold spl at h
    split at h
    · rcases List.mem_cons.mp h with rfl | h
      · simp
      · exact ih p h
    · rename_i hc
      split at h
      · rename_i q qs hq
        rcases List.mem_cons.mp h with rfl | h
        · have := ih q (by rw [hq]; exact .head _)
          simp only [List.mem_cons, not_or]; exact ⟨fun e => hc e.symm, this⟩
        · exact ih p (by rw [hq]; exact .tail _ h)
      · rcases List.mem_cons.mp h with rfl | h
        · simp; exact fun e => hc e.symm
        · cases h
theorem spl_of_free : ∀ {l : List Nat}, 42 ∉ l → spl l = [l]
  | [], _ => rfl
  | c :: r, h => by
    have h1 : c ≠ 42 := fun e => h (by simp [e])
    have h2 := spl_of_free (l := r) fun e => h (.tail _ e)
    unfold spl
    rw [if_neg h1, h2]
/-- two rows of pieces, glued -/
def glue : List (List Nat) → List (List Nat) → List (List Nat)
  | [], g => g
  | [p], g => match g with | q :: gs => (p ++ q) :: gs | [] => [p]
  | p :: p' :: ps, g => p :: glue (p' :: ps) g
theorem glue_cons {p : List Nat} {ps : List (List Nat)} (h : ps ≠ []) (g : List (List Nat)) : glue (p :: ps) g = p :: glue ps g := by
  cases ps with
  | nil => exact absurd rfl h
  | cons q qs => rfl
theorem spl_append : ∀ a b : List Nat, spl (a ++ b) = glue (spl a) (spl b)
  | [], b => by
    show spl b = glue [[]] (spl b)
    have := spl_ne b
    cases h : spl b with
    | nil => exact absurd h this
    | cons q qs => simp [glue]
  | c :: r, b => by
    have ih := spl_append r b
    show spl (c :: (r ++ b)) = _
    rw [spl_cons, spl_cons]
    by_cases hc : c = 42
    · rw [if_pos hc, if_pos hc, ih, glue_cons (spl_ne r)]
    · rw [if_neg hc, if_neg hc, ih]
      cases hr : spl r with
      | nil => exact absurd hr (spl_ne r)
      | cons p ps =>
        dsimp only
        cases ps with
        | nil =>
          have := spl_ne b
          cases hb : spl b with
          | nil => exact absurd hb this
          | cons q qs => simp [glue]
        | cons p' ps => simp [glue]
def joinStar : List (List Nat) → List Nat
  | [] => []
  | [p] => p
  | p :: q :: r => p ++ 42 :: joinStar (q :: r)
theorem spl_join : ∀ {ps : List (List Nat)}, ps ≠ [] → (∀ p ∈ ps, 42 ∉ p) → spl (joinStar ps) = ps
  | [], h, _ => absurd rfl h
  | [p], _, h => spl_of_free (h p (.head _))
  | p :: q :: r, _, h => by
    have ih := spl_join (ps := q :: r) (by simp) fun x hx => h x (.tail _ hx)
    show spl (p ++ 42 :: joinStar (q :: r)) = _
    rw [spl_append, spl_of_free (h p (.head _))]
    have : spl (42 :: joinStar (q :: r)) = [] :: spl (joinStar (q :: r)) := by rw [spl, if_pos rfl]
    rw [this, ih]
    simp [glue]

def E (l : List Nat) : List Nat := l.flatMap esc1
theorem E_append (a b : List Nat) : E (a ++ b) = E a ++ E b := by simp [E]
theorem E_free {l : List Nat} (h : 42 ∉ l) : 42 ∉ E l := by
  unfold E
  intro hm
  obtain ⟨c, hc, hm⟩ := List.mem_flatMap.mp hm
  unfold esc1 at hm
  split at hm
  · simp at hm; exact h (hm ▸ hc)
  · simp at hm; exact h (hm ▸ hc)
theorem E_head {l : List Nat} {c : Nat} (h : (E l)[0]? = some c) : c ≠ 63 := by
  cases l with
  | nil => cases h
  | cons a l =>
    unfold E at h
    rw [List.flatMap_cons] at h
    unfold esc1 at h
    split at h
    · simp at h; omega
    · rename_i hs
      simp at h
      intro e
      rw [← h] at e
      rw [e] at hs
      exact hs (by decide)
theorem E_len (l : List Nat) : (E l).length ≤ 2 * l.length := esc_len_le l
def opn : List Nat := [40, 63, 62, 46, 42, 63]
def tailP : List (List Nat) → List Nat
  | [] => []
  | [q] => [46, 42] ++ E q
  | q :: r :: rs => opn ++ E q ++ [41] ++ tailP (r :: rs)
def tpP : List (List Nat) → List Nat
  | [] => []
  | [p] => [46, 42] ++ E p
  | p :: q :: r => E p ++ tailP (q :: r)
def tpl (l : List Nat) : List Nat := tpP (spl l)

end Mine
namespace Mine
open PySem.Builtin PySem.Builtin.Str

abbrev tl (x : Str) : List Nat := x.cps.toList
theorem str_ext {x y : Str} (h : tl x = tl y) : x = y := by
  obtain ⟨⟨a⟩⟩ := x; obtain ⟨⟨b⟩⟩ := y
  have : a = b := h
  rw [this]
theorem tl_append (x y : Str) : tl (x ++ y) = tl x ++ tl y := by
  show (x ++ y).cps.toList = _
  rw [Str.cps_append]; simp
theorem tl_length (x : Str) : (tl x).length = x.length := by simp [tl, PySem.Str.length]

theorem slice_from_tl {x : Str} {i : Int} (h0 : 0 ≤ i) (h1 : i ≤ (tl x).length) : tl (Txt.slice x (some i) none) = (tl x).drop i.toNat := by
  rw [slice_from_eq h0 (by rw [← tl_length]; exact h1) rfl]
  show (((tl x).drop i.toNat).take _).toArray.toList = _
  rw [List.take_of_length_le]
  rw [List.length_drop, ← tl_length]; omega
theorem slice_to_tl {x : Str} {j : Int} (h0 : 0 ≤ j) (h1 : j ≤ (tl x).length) : tl (Txt.slice x none (some j)) = (tl x).take j.toNat := by
  rw [eq_of_beq (slice_closes_toL h0 (by rw [← tl_length]; exact h1))]
  simp
theorem slice_mid_tl {x : Str} {i j : Int} (h0 : 0 ≤ i) (h1 : i ≤ (tl x).length) (h2 : i ≤ j) : tl (Txt.slice x (some i) (some j)) = ((tl x).drop i.toNat).take (j - i).toNat := by
  by_cases hj : j ≤ x.length
  · rw [eq_of_beq (slice_closesL h0 h2 hj)]
  · have e : Txt.slice x (some i) (some j) = Txt.slice x (some i) (some (x.length : Int)) := by
      have : strSliceIndices (some i) (some j) 1 x.length = strSliceIndices (some i) (some (x.length : Int)) 1 x.length := by
        have a0 : ¬ i < 0 := by omega
        have a1 : ¬ j < 0 := by omega
        have a2 : ¬ ((x.length : Int) < 0) := by omega
        have a3 : (1 : Int) > 0 := by decide
        have a4 : (x.length : Int) ≤ j := by omega
        simp only [strSliceIndices, a0, a1, a2, a3, if_false, if_true, Int.min_eq_right a4, Int.min_self]
      unfold Txt.slice
      rw [this]
    rw [tl_length] at h1
    rw [e, eq_of_beq (slice_closesL h0 h1 (Int.le_refl _))]
    show (((tl x).drop i.toNat).take _).toArray.toList = _
    rw [List.take_of_length_le, List.take_of_length_le]
    · rw [List.length_drop, tl_length]; omega
    · rw [List.length_drop, tl_length]; omega

-- the places of the stars
def posL (l : List Nat) : List Int := ((List.range l.length).filter fun i => l[i]? == some 42).map fun (i : Nat) => (i : Int)
theorem filter_none {l : List Nat} (h : 42 ∉ l) : (List.range l.length).filter (fun i => l[i]? == some 42) = [] := by
  rw [List.filter_eq_nil_iff]
  intro i hi e
  exact h (List.mem_of_getElem? (eq_of_beq e))
theorem posL_last {u v : List Nat} (h : 42 ∉ v) : (posL (u ++ 42 :: v)).getLast? = some (u.length : Int) := by
  unfold posL
  have e1 : (u ++ 42 :: v).length = (u.length + 1) + v.length := by simp; omega
  rw [e1, List.range_add, List.filter_append]
  have e2 : ((List.range v.length).map (fun x => u.length + 1 + x)).filter (fun i => (u ++ 42 :: v)[i]? == some 42) = [] := by
    rw [List.filter_eq_nil_iff]
    intro i hi e
    obtain ⟨j, hj, rfl⟩ := List.mem_map.mp hi
    have := eq_of_beq e
    rw [List.getElem?_append_right (by omega), show u.length + 1 + j - u.length = j + 1 by omega, List.getElem?_cons_succ] at this
    exact h (List.mem_of_getElem? this)
  rw [e2, List.append_nil, List.range_succ, List.filter_append]
  have e3 : [u.length].filter (fun i => (u ++ 42 :: v)[i]? == some 42) = [u.length] := by simp
  rw [e3, List.map_append]
  simp
theorem posL_head {u v : List Nat} (h : 42 ∉ u) : (posL (u ++ 42 :: v)).head? = some (u.length : Int) := by
  unfold posL
  have e1 : (u ++ 42 :: v).length = u.length + (1 + v.length) := by simp; omega
  rw [e1, List.range_add, List.filter_append]
  have e2 : (List.range u.length).filter (fun i => (u ++ 42 :: v)[i]? == some 42) = [] := by
    rw [List.filter_eq_nil_iff]
    intro i hi e
    have := eq_of_beq e
    rw [List.getElem?_append_left (List.mem_range.mp hi)] at this
    exact h (List.mem_of_getElem? this)
  rw [e2, List.nil_append, Nat.add_comm 1, List.range_succ_eq_map, List.map_cons, List.filter_cons]
  simp
end Mine
namespace Mine
open PySem.Builtin PySem.Builtin.Str

theorem tl_join : ∀ l : List Str, tl (Txt.join (Str.ofString "") l) = (l.map tl).flatten := by
  intro l
  have key : ∀ (ps : List Str) (a : Array Nat), (ps.foldl (fun acc p => acc ++ (Str.ofString "").cps ++ p.cps) a).toList = a.toList ++ (ps.map tl).flatten := by
    intro ps
    induction ps with
    | nil => intro a; simp
    | cons p ps ih =>
      intro a
      rw [List.foldl_cons, ih]
      have : (Str.ofString "").cps = #[] := by decide
      rw [this]
      simp [tl]
  have e : tl (Txt.join (Str.ofString "") l) = ((l.drop 1).foldl (fun acc p => acc ++ (Str.ofString "").cps ++ p.cps) (l.headD Str.empty).cps).toList := rfl
  rw [e, key]
  cases l with
  | nil => decide
  | cons p ps => simp [tl]
theorem tl_strjoin : ∀ ps : List Str, tl (Str.join (Str.ofString "*") ps) = joinStar (ps.map tl)
  | [] => by decide
  | [p] => rfl
  | p :: q :: r => by
    have ih := tl_strjoin (q :: r)
    show tl (p ++ Str.ofString "*" ++ Str.join (Str.ofString "*") (q :: r)) = _
    rw [tl_append, tl_append, ih]
    have : tl (Str.ofString "*") = [42] := by decide
    rw [this]
    simp [joinStar]
theorem pieces_spl (x : Str) : (pieces x).map tl = spl (tl x) := by
  have h := StrLaws.join_split x (Str.ofString "*")
  have e : Str.ofString "*" = ⟨#[42]⟩ := by decide
  have hf : ∀ p ∈ (pieces x).map tl, 42 ∉ p := by
    intro p hp
    obtain ⟨q, hq, rfl⟩ := List.mem_map.mp hp
    unfold pieces at hq
    rw [e] at hq
    exact StrLaws.split_free x 42 q hq
  have hn : (pieces x).map tl ≠ [] := by
    intro hn
    have := pieces_pos x
    rw [← List.length_map (f := tl), hn] at this
    simp at this
  have h2 := spl_join hn hf
  rw [← tl_strjoin] at h2
  unfold pieces at h2 ⊢
  rw [h] at h2
  exact h2.symm
theorem tl_esc (x : Str) : tl (esc x) = E (tl x) := by simp [tl, esc, E]
theorem tl_wrap (x : Str) : tl (wrap x) = opn ++ tl x ++ [41] := by
  unfold wrap
  rw [tl_append, tl_append]
  have h1 : tl (Str.ofString "(?>.*?") = opn := by decide
  have h2 : tl (Str.ofString ")") = [41] := by decide
  rw [h1, h2]

theorem tailP_idx : ∀ ps : List (List Nat), (ps.mapIdx fun j p => if j = ps.length - 1 then [46, 42] ++ E p else opn ++ E p ++ [41]).flatten = tailP ps
  | [] => rfl
  | [q] => by simp [tailP]
  | q :: r :: rs => by
    have ih := tailP_idx (r :: rs)
    rw [List.mapIdx_cons, List.flatten_cons, tailP]
    rw [if_neg (by simp), ← ih]
    congr 2
    apply List.ext_getElem?
    intro i
    rw [List.getElem?_mapIdx, List.getElem?_mapIdx]
    cases (r :: rs)[i]? with
    | none => rfl
    | some z =>
      have : (i + 1 = (q :: r :: rs).length - 1) ↔ (i = (r :: rs).length - 1) := by simp
      simp [this]

theorem tl_tp (x : Str) : tl (tp x) = tpl (tl x) := by
  unfold tp tpl
  rw [tl_join, ← pieces_spl]
  have hpos := pieces_pos x
  generalize pieces x = ps at hpos
  have e : (lastL (stepL (ps.map esc) (ps.length - 2))).map tl = (ps.map tl).mapIdx fun j p => if j = ps.length - 1 then [46, 42] ++ E p else if 1 ≤ j then opn ++ E p ++ [41] else E p := by
    apply List.ext_getElem?
    intro i
    rw [List.getElem?_map, List.getElem?_mapIdx, List.getElem?_map]
    unfold lastL
    rw [List.getElem?_set, stepL_length, List.length_map]
    have hds : tl (Str.ofString ".*") = [46, 42] := by decide
    by_cases hi : ps.length - 1 = i
    · subst hi
      rw [if_pos rfl, if_pos (by omega)]
      have hp : ps[ps.length - 1]? = some ps[ps.length - 1] := List.getElem?_eq_getElem (by omega)
      rw [stepL, List.getElem?_mapIdx, List.getElem?_map, hp]
      simp only [Option.map_some, Option.getD_some, if_true]
      rw [if_neg (by omega), tl_append, tl_esc, hds]
    · rw [if_neg hi, stepL, List.getElem?_mapIdx, List.getElem?_map]
      cases hp : ps[i]? with
      | none => rfl
      | some z =>
        have hlt := (List.getElem?_eq_some_iff.mp hp).1
        simp only [Option.map_some]
        have h0 : ¬ i = ps.length - 1 := fun e => hi e.symm
        by_cases h1 : 1 ≤ i
        · have h2 : 1 ≤ i ∧ i ≤ ps.length - 2 := ⟨h1, by omega⟩
          simp only [if_neg h0, if_pos h1, if_pos h2, tl_wrap, tl_esc]
        · have h2 : ¬ (1 ≤ i ∧ i ≤ ps.length - 2) := fun h => h1 h.1
          simp only [if_neg h0, if_neg h1, if_neg h2, tl_esc]
  rw [e]
  match ps, hpos with
  | [p], _ => simp [tpP]
  | p :: q :: r, _ =>
    rw [List.map_cons, List.mapIdx_cons, List.flatten_cons]
    rw [if_neg (by simp), if_neg (by omega)]
    show _ = E (tl p) ++ tailP ((q :: r).map tl)
    rw [← tailP_idx]
    congr 2
    apply List.ext_getElem?
    intro i
    rw [List.getElem?_mapIdx, List.getElem?_mapIdx]
    cases ((q :: r).map tl)[i]? with
    | none => rfl
    | some z =>
      have h1 : (i + 1 = (p :: q :: r).length - 1) ↔ (i = ((q :: r).map tl).length - 1) := by simp
      simp only [Option.map_some, h1]
      by_cases h2 : i = ((q :: r).map tl).length - 1
      · rw [if_pos h2, if_pos h2]
      · rw [if_neg h2, if_neg h2, if_pos (by omega)]

-- the law's heart
theorem tailP_cons {q : List Nat} {rs : List (List Nat)} (h : rs ≠ []) : tailP (q :: rs) = opn ++ E q ++ [41] ++ tailP rs := by
  cases rs with
  | nil => exact absurd rfl h
  | cons r rs => rfl
theorem tpP_cons {q : List Nat} {rs : List (List Nat)} (h : rs ≠ []) : tpP (q :: rs) = E q ++ tailP rs := by
  cases rs with
  | nil => exact absurd rfl h
  | cons r rs => rfl
/-- the front of a path's pattern, up to its last star's dot -/
theorem tailP_snoc : ∀ (ps : List (List Nat)) (p : List Nat), ∃ X, tailP (ps ++ [p]) = X ++ [46, 42] ++ E p ∧ ∀ q qs, qs ≠ [] → tailP (ps ++ (q :: qs)) = X ++ opn ++ E q ++ [41] ++ tailP qs
  | [], p => ⟨[], by simp [tailP], fun q qs h => by simp [tailP_cons h]⟩
  | r :: ps, p => by
    obtain ⟨X, h1, h2⟩ := tailP_snoc ps p
    refine ⟨opn ++ E r ++ [41] ++ X, ?_, fun q qs h => ?_⟩
    · rw [List.cons_append, tailP_cons (by simp), h1]; simp
    · rw [List.cons_append, tailP_cons (by simp), h2 q qs h]; simp
theorem tailP_snoc_end (ps : List (List Nat)) (p q : List Nat) : tailP (ps ++ [p ++ q]) = tailP (ps ++ [p]) ++ E q := by
  induction ps with
  | nil => simp [tailP, E_append]
  | cons r ps ih => rw [List.cons_append, List.cons_append, tailP_cons (by simp), tailP_cons (by simp), ih]; simp
theorem glue_snoc (ps : List (List Nat)) (p q : List Nat) (qs : List (List Nat)) : glue (ps ++ [p]) (q :: qs) = ps ++ ((p ++ q) :: qs) := by
  induction ps with
  | nil => rfl
  | cons r ps ih => rw [List.cons_append, glue_cons (by simp), ih]; rfl
/-- where a pattern behind its first piece begins -/
theorem tailP_head {qs : List (List Nat)} (h : qs ≠ []) : (∃ Y, tailP qs = [46, 42] ++ Y ∧ Y[0]? ≠ some 63) ∨ ∃ Y, tailP qs = opn ++ Y := by
  cases qs with
  | nil => exact absurd rfl h
  | cons q rs =>
    cases rs with
    | nil => exact .inl ⟨E q, rfl, fun e => E_head e rfl⟩
    | cons r rs => exact .inr ⟨_, by rw [tailP]; simp only [List.append_assoc]; rfl⟩
end Mine
namespace Mine
open PySem.Builtin PyProof.V PySem.Spec

theorem compTurn_two0 (elt iter iter2 : PySem.Expr) (x y : Str) (px py : Pos) (scope : Scope) (pos : Pos) (it acc : Value) (env : Env) :
    compTurn (.ListComp elt [⟨.Name x px, iter, [], 0⟩, ⟨.Name y py, iter2, [], 0⟩] scope pos) 0 it acc env = (standAt iter.pos >>= fun _ => pyNext it >>= fun r => match r with
      | none => pure (.done .next)
      | some v => letOwnedTupleGo (.Name x px) it v >>= fun _ => assign (.Name x px) env v >>= fun _ =>
        eval iter2 env >>= fun xx => standAt iter2.pos >>= fun _ => foldedSetIterable iter2 env xx >>= fun xx => holding [xx] (pyIter xx) >>= fun i2 =>
          runOwn (.compStart (.ListComp elt [⟨.Name x px, iter, [], 0⟩, ⟨.Name y py, iter2, [], 0⟩] scope pos) 1 i2 acc env) env >>= fun _ =>
          again (.compLoop (.ListComp elt [⟨.Name x px, iter, [], 0⟩, ⟨.Name y py, iter2, [], 0⟩] scope pos) 0 it acc env)) := by rfl
theorem compTurn_two1 (elt iter iter2 : PySem.Expr) (x y : Str) (px py : Pos) (scope : Scope) (pos : Pos) (it acc : Value) (env : Env) :
    compTurn (.ListComp elt [⟨.Name x px, iter, [], 0⟩, ⟨.Name y py, iter2, [], 0⟩] scope pos) 1 it acc env = (standAt iter2.pos >>= fun _ => pyNext it >>= fun r => match r with
      | none => pure (.done .next)
      | some v => letOwnedTupleGo (.Name y py) it v >>= fun _ => assign (.Name y py) env v >>= fun _ =>
        (eval elt env >>= fun x => call (.builtin "list.append") [acc, x] >>= fun _ => pure ()) >>= fun _ =>
          again (.compLoop (.ListComp elt [⟨.Name x px, iter, [], 0⟩, ⟨.Name y py, iter2, [], 0⟩] scope pos) 1 it acc env)) := by rfl

section
variable {prog : Program} {w : World} {A : Around} {R : Result → Shared → Prop} {s : Shared}

theorem two_start1 {elt iter iter2 : PySem.Expr} {x y : Str} {px py : Pos} {scope : Scope} {pos : Pos} {it acc : Value} {env : Env}
    (h0 : codeAny (model prog w) A (.compLoop (.ListComp elt [⟨.Name x px, iter, [], 0⟩, ⟨.Name y py, iter2, [], 0⟩] scope pos) 1 it acc env) R s)
    (h : wpAny (model prog w) A (pyIter it) (fun it' s' => codeAny (model prog w) A (.compLoop (.ListComp elt [⟨.Name x px, iter, [], 0⟩, ⟨.Name y py, iter2, [], 0⟩] scope pos) 1 it' acc env) R s')
      (notedBy (model prog w) A env fun x s' => R (.error x) s') s) :
    codeAny (model prog w) A (.compStart (.ListComp elt [⟨.Name x px, iter, [], 0⟩, ⟨.Name y py, iter2, [], 0⟩] scope pos) 1 it acc env) R s := by
  refine codeAny_of_tree ?_
  show wpAny _ _ ((compStart (.ListComp elt [⟨.Name x px, iter, [], 0⟩, ⟨.Name y py, iter2, [], 0⟩] scope pos) 1 it acc env).onRaise (fun x => do noteFrame x env; standAt theWindowsPlace)) _ _ s
  refine wpAny_notedAt ?_
  unfold compStart
  show wpAny _ _ (ask >>= _) _ _ s
  refine wpAny_bind (wpAny_askSetting (wpAny_ite ?_))
  split
  · first
      | exact wpAny_bind (wpAny_pure (wpAny_pure (And.intro rfl h0)))
      | exact wpAny_pure (And.intro rfl h0)
  · first
      | exact wpAny_bind (wpAny_rule (wpAny_bind (wpAny_standAt (wpAny_bind (wpAny_mono h (fun it' s' h' => wpAny_pure (And.intro rfl h')) fun _ _ x => x)))))
      | (refine wpAny_bind (wpAny_rule ?_); show wpAny _ _ (standAt iter2.pos >>= _) _ _ s; exact wpAny_bind (wpAny_standAt (wpAny_bind (wpAny_mono h (fun it' s' h' => wpAny_pure (And.intro rfl h')) fun _ _ x => x))))

theorem two_startR {elt iter iter2 : PySem.Expr} {x y : Str} {px py : Pos} {scope : Scope} {pos : Pos} {it : Addr} {acc : Value} {env : Env} {x0 left step : Int} (hit : IsRangeIter s.heap it x0 left step)
    (h0 : codeAny (model prog w) A (.compLoop (.ListComp elt [⟨.Name x px, iter, [], 0⟩, ⟨.Name y py, iter2, [], 0⟩] scope pos) 1 (.ref it) acc env) R s) :
    codeAny (model prog w) A (.compStart (.ListComp elt [⟨.Name x px, iter, [], 0⟩, ⟨.Name y py, iter2, [], 0⟩] scope pos) 1 (.ref it) acc env) R s :=
  two_start1 h0 (wpAny_pyIter_rangeiter hit h0)

def runL (a st : Int) (n : Nat) : List Int := (List.range n).map fun (i : Nat) => a + (i : Int) * st
theorem runL_succ (a st : Int) (n : Nat) : runL a st (n + 1) = runL a st n ++ [a + (n : Int) * st] := by
  simp [runL, List.range_succ]
theorem runL_length (a st : Int) (n : Nat) : (runL a st n).length = n := by simp [runL]

theorem two_inner {iter iter2 : PySem.Expr} {x y : Str} {px py pz : Pos} {scope : Scope} {pos : Pos} {J D : Addr} {cenv : Env} {a st : Int} {n : Nat} {ys : List Value} {m : Str → Option Value}
    (hh : A.handled = none) (hy : cenv.kindOf y = some .local) (hk : cenv.scope.kind = .function) (hd : (y == ("__debug__" : Str)) = false)
    (hDC : D ≠ cenv.locals) (hDJ : D ≠ J) (hCJ : cenv.locals ≠ J) (hst : IsRangeIter s.heap J a (n : Int) st) (hacc : s.heap.PlainList D ys.toArray) (hn : s.heap.Ns cenv.locals m) (hsz : ys.length + n ≤ sizeLine)
    (hR : ∀ h' tk m' zs, h'.Ns cenv.locals m' → (∀ z, z ≠ y → m' z = m z) → h'.PlainList D (ys ++ zs).toArray → IntsAre zs (runL a st n) →
      (∀ b o, b ≠ cenv.locals → b ≠ J → b ≠ D → s.heap.get? b = some o → h'.get? b = some o) → R (.ok .next) { s with heap := h', toks := tk }) :
    codeAny (model prog w) A (.compLoop (.ListComp (.Name y pz) [⟨.Name x px, iter, [], 0⟩, ⟨.Name y py, iter2, [], 0⟩] scope pos) 1 (.ref J) (.ref D) cenv) R s := by
  have W := Walks.range (prog := prog) (w := w) hh J a st n
  have hp : (cenv.scope.kind == .class || (cenv.scope.kind == .module && cenv.locals != cenv.globals)) = false := by rw [hk]; rfl
  refine codeAny_loop rfl (fun k s' => ∃ i h' tk m' zs, s' = { s with heap := h', toks := tk } ∧ k = n + 1 - i ∧ i ≤ n ∧ IsRangeIter h' J (a + (i : Int) * st) ((n : Int) - (i : Int)) st ∧ h'.Ns cenv.locals m' ∧ (∀ z, z ≠ y → m' z = m z) ∧
    h'.PlainList D (ys ++ zs).toArray ∧ IntsAre zs (runL a st i) ∧ (∀ b o, b ≠ cenv.locals → b ≠ J → b ≠ D → s.heap.get? b = some o → h'.get? b = some o)) ?_ (n + 1)
    ⟨0, s.heap, s.toks, m, [], rfl, rfl, Nat.zero_le _, by simpa using hst, hn, fun _ _ => rfl, by simpa using hacc, .nil, fun _ _ _ _ _ e => e⟩
  rintro k s' ⟨i, H, tk, m', zs, rfl, rfl, hi, hst', hn', hm', hacc', hzs, hk'⟩
  show wpAny _ A ((compTurn (.ListComp (.Name y pz) [⟨.Name x px, iter, [], 0⟩, ⟨.Name y py, iter2, [], 0⟩] scope pos) 1 (.ref J) (.ref D) cenv).onRaise (fun x => do noteFrame x cenv; theTreesLotGoes x)) _ _ _
  refine wpAny_noted ?_
  rw [compTurn_two1]
  refine wpAny_bind (wpAny_standAt (wpAny_bind ?_))
  have hzl : zs.length = i := by rw [hzs.length, runL_length]
  by_cases hlt : i < n
  · refine W.item i _ _ _ hlt hst' fun v h₁ tk₁ hPv hst₁ hk₁ => ?_
    obtain ⟨t, rfl⟩ := hPv
    refine wpAny_bind (wpAny_of_eq rfl (wpAny_bind (wpAny_assign_Name (wpAny_storeName_local hy (hn'.at' fun o e => hk₁ _ o (by rw [List.mem_singleton]; exact hCJ) e) (fun h₂ hn₂ hs₂ => ?_) hp))))
    refine wpAny_bind (wpAny_bind (wpAny_Name (wpAny_loadName_local hk hy hn₂ (if_pos rfl) ?_) hd))
    have hacc₂ : h₂.PlainList D (ys ++ zs).toArray := hacc'.at fun o e => hs₂.extBut D o hDC (hk₁ D o (by rw [List.mem_singleton]; exact hDJ) e)
    refine wpAny_bind (wpAny_list_append_plain (hsz := by simp; omega) hacc₂ fun h₃ hl₃ hs₃ => wpAny_pure (wpAny_pure ⟨rfl, n + 1 - (i + 1), by omega, i + 1, h₃, _, _, zs ++ [.int (a + (i : Int) * st) t], rfl, rfl, by omega, ?_, hn₂.sameBut hs₃ (Ne.symm hDC), ?_, ?_, ?_, ?_⟩))
    · have st₂ := W.frame _ _ h₂ hst₁ fun b hb o e => hs₂.extBut b o (by rw [List.mem_singleton.mp hb]; exact Ne.symm hCJ) e
      exact W.frame _ _ h₃ st₂ fun b hb o e => hs₃.extBut b o (by rw [List.mem_singleton.mp hb]; exact Ne.symm hDJ) e
    · intro z hz; simp [hz, hm' z hz]
    · simpa using hl₃
    · rw [runL_succ]; exact hzs.append (.cons _ _ .nil)
    · intro b o h1 h2 h3 e
      exact hs₃.extBut b o h3 (hs₂.extBut b o h1 (hk₁ b o (by rw [List.mem_singleton]; exact h2) (hk' b o h1 h2 h3 e)))
  · have hin : i = n := by omega
    subst hin
    refine W.done _ _ _ hst' fun h₁ tk₁ hk₁ => wpAny_pure ?_
    have up : ∀ b o, b ≠ J → H.get? b = some o → h₁.get? b = some o := fun b o hb e => hk₁ b o (by rw [List.mem_singleton]; exact hb) e
    exact hR h₁ tk₁ m' zs (hn'.at' fun o e => up _ o hCJ e) hm' (hacc'.at fun o e => up D o hDJ e) hzs fun b o h1 h2 h3 e => up b o h2 (hk' b o h1 h2 h3 e)
end

/-- what is asked of the inner iterable: at every item a range -/
def InnerOk (prog : Program) (w : World) (A : Around) (env : Env) (scope : Scope) (cl : List (Str × Addr)) (x : Str) (iter2 : PySem.Expr) (wr : List Addr) (items : List Int) (fa fb : Int → Int) (st : Int) (s₂ : Shared) : Prop :=
  ∀ C (p : Int) t s₃ m₃ E', s₂.heap.objs.size ≤ C → p ∈ items → s₃.heap.Ns C m₃ → m₃ x = some (.int p t) → (∀ b o, b ∉ wr → s₂.heap.get? b = some o → s₃.heap.get? b = some o) →
    wpAny (model prog w) A (eval iter2 (compEnvC scope cl C env)) (fun v s₄ => (∃ r t u z, v = .ref r ∧ IsRange s₄.heap r (fa p) (fb p) st t u z) ∧ Keeps s₃ s₄) E' s₃

theorem flatMap_take_succ {α β : Type} (f : α → List β) (l : List α) (i : Nat) (v : α) (h : l[i]? = some v) : (l.take (i + 1)).flatMap f = (l.take i).flatMap f ++ f v := by
  rw [List.take_add_one, h, List.flatMap_append]; simp

section
variable {prog : Program} {w : World} {A : Around} {E : Value → Shared → Prop} {env : Env}
theorem two_outer {R : Result → Shared → Prop} {s s₂ : Shared} {iter iter2 : PySem.Expr} {x y : Str} {px py pz : Pos} {scope : Scope} {cl : List (Str × Addr)} {pos : Pos} {I ax D C : Addr} {vs : List Value} {items : List Int} {m : Str → Option Value}
    (fa fb : Int → Int) (cnt : Int → Nat) (st : Int)
    (hh : A.handled = none) (hv : IntsAre vs items) (hkind : scope.kind = .function) (hx : scope.names.lookup x = some .local) (hy : scope.names.lookup y = some .local) (hxy : x ≠ y) (hd : (y == ("__debug__" : Str)) = false)
    (hs2 : ∀ env xv, foldedSetIterable iter2 env xv = pure xv)
    (hDC : D ≠ C) (hDI : D ≠ I) (hDa : D ≠ ax) (hCI : C ≠ I) (hCa : C ≠ ax) (hIa : ax ≠ I) (hC2 : s₂.heap.objs.size ≤ C) (hD2 : s₂.heap.objs.size ≤ D)
    (hold : ∀ b o, s₂.heap.get? b = some o → s.heap.get? b = some o)
    (hq : InnerOk prog w A env scope cl x iter2 [I] items fa fb st s₂)
    (hsm : ∀ p ∈ items, Builtin.Range.small (fa p) (fb p) st = true ∧ Builtin.Range.rangeSize (fa p) (fb p) st = (cnt p : Int))
    (hsz : (items.flatMap fun p => runL (fa p) st (cnt p)).length ≤ sizeLine)
    (hit : s.heap.IsListIter I ax 0) (hl : s.heap.IsList ax vs.toArray) (hacc : s.heap.PlainList D #[]) (hn : s.heap.Ns C m)
    (hR : ∀ h' tk m' ys, h'.Ns C m' → h'.PlainList D (List.toArray ys) → IntsAre ys (items.flatMap fun p => runL (fa p) st (cnt p)) →
      (∀ b o, b ≠ C → b ≠ I → b ≠ D → s.heap.get? b = some o → h'.get? b = some o) → R (.ok .next) { s with heap := h', toks := tk }) :
    codeAny (model prog w) A (.compLoop (.ListComp (.Name y pz) [⟨.Name x px, iter, [], 0⟩, ⟨.Name y py, iter2, [], 0⟩] scope pos) 0 (.ref I) (.ref D) (compEnvC scope cl C env)) R s := by
  have W := Walks.list (prog := prog) (w := w) hh I ax hIa vs.toArray
  have hkx : (compEnvC scope cl C env).kindOf x = some .local := lookup_relabel_local hx
  have hky : (compEnvC scope cl C env).kindOf y = some .local := lookup_relabel_local hy
  have hk3 : (compEnvC scope cl C env).scope.kind = .function := by simp [compEnvC, relabel, hkind]
  have hp : ((compEnvC scope cl C env).scope.kind == .class || ((compEnvC scope cl C env).scope.kind == .module && (compEnvC scope cl C env).locals != (compEnvC scope cl C env).globals)) = false := by rw [hk3]; rfl
  have hsize : vs.toArray.size = items.length := by rw [List.size_toArray, hv.length]
  refine codeAny_loop rfl (fun k s' => ∃ i h' tk m' ys, s' = { s with heap := h', toks := tk } ∧ k = items.length + 1 - i ∧ i ≤ items.length ∧ (h'.IsListIter I ax i ∧ h'.IsList ax vs.toArray) ∧ h'.Ns C m' ∧
    h'.PlainList D (List.toArray ys) ∧ IntsAre ys ((items.take i).flatMap fun p => runL (fa p) st (cnt p)) ∧ (∀ b o, b ≠ C → b ≠ I → b ≠ D → s.heap.get? b = some o → h'.get? b = some o)) ?_ (items.length + 1)
    ⟨0, s.heap, s.toks, m, [], rfl, rfl, Nat.zero_le _, ⟨hit, hl⟩, hn, hacc, .nil, fun _ _ _ _ _ e => e⟩
  rintro k s' ⟨i, H, tk, m', ys, rfl, rfl, hi, hst', hn', hacc', hys, hk'⟩
  show wpAny _ A ((compTurn (.ListComp (.Name y pz) [⟨.Name x px, iter, [], 0⟩, ⟨.Name y py, iter2, [], 0⟩] scope pos) 0 (.ref I) (.ref D) (compEnvC scope cl C env)).onRaise (fun x => do noteFrame x (compEnvC scope cl C env); theTreesLotGoes x)) _ _ _
  refine wpAny_noted ?_
  rw [compTurn_two0]
  refine wpAny_bind (wpAny_standAt (wpAny_bind ?_))
  by_cases hlt : i < items.length
  · refine W.item i _ _ _ (by rw [hsize]; exact hlt) hst' fun v h₁ tk₁ hPv hst₁ hk₁ => ?_
    obtain ⟨p, hpi⟩ : ∃ p, items[i]? = some p := ⟨_, List.getElem?_eq_getElem hlt⟩
    obtain ⟨t, hvp⟩ := hv.get i p hpi
    have hvv : v = .int p t := by
      have : vs[i]? = some v := by simpa using hPv
      rw [hvp] at this; exact (Option.some.inj this).symm
    subst hvv
    have hpm : p ∈ items := List.mem_of_getElem? hpi
    have hk₁' : ∀ b o, b ≠ I → H.get? b = some o → h₁.get? b = some o := fun b o hb e => hk₁ b o (by rw [List.mem_singleton]; exact hb) e
    refine wpAny_bind (wpAny_of_eq rfl (wpAny_bind (wpAny_assign_Name (wpAny_storeName_local hkx (hn'.at' fun o e => hk₁' _ o hCI e) (fun h₂ hn₂ hs₂ => ?_) hp))))
    have up₂ : ∀ b o, b ≠ C → b ≠ I → H.get? b = some o → h₂.get? b = some o := fun b o h1 h2 e => hs₂.extBut b o h1 (hk₁' b o h2 e)
    refine wpAny_bind (wpAny_mono (hq C p t _ _ _ hC2 hpm hn₂ (if_pos rfl) ?_) (fun v₂ s₄ h₄ => ?_) fun _ _ e => e)
    · intro b o hb e
      have hlt := Heap.lt_size e
      have b1 : b ≠ C := fun e => absurd hC2 (by rw [← e]; exact Nat.not_le.mpr hlt)
      have b2 : b ≠ D := fun e => absurd hD2 (by rw [← e]; exact Nat.not_le.mpr hlt)
      have b3 : b ≠ I := fun e => hb (by rw [e]; exact .head _)
      exact up₂ b o b1 b3 (hk' b o b1 b3 b2 (hold b o e))
    obtain ⟨⟨r, t1, t2, t3, rfl, hr⟩, h₄, tk₄, rfl, hk₄⟩ := h₄
    refine wpAny_bind (wpAny_standAt (wpAny_bind (wpAny_of_eq (hs2 _ _) (wpAny_bind (wpAny_holding (wpAny_pyIter_range hr (hsm p hpm).1 ?_))))))
    try dsimp only at hr hk₄ hn₂ ⊢
    have hD₄ : h₄.PlainList D (List.toArray ys) := hacc'.at fun o e => hk₄ _ _ (up₂ D o hDC hDI e)
    have hC₄ := hn₂.keeps hk₄
    have dlt : @LT.lt Nat _ D h₄.objs.size := by obtain ⟨_, e⟩ := hD₄; exact Heap.lt_size e
    have clt : @LT.lt Nat _ C h₄.objs.size := hC₄.lt
    have hlen : ys.length + cnt p ≤ sizeLine := by
      have e1 := flatMap_take_succ (fun p => runL (fa p) st (cnt p)) items i p hpi
      have e2 : (((items.take (i + 1)).flatMap fun p => runL (fa p) st (cnt p))).length ≤ (items.flatMap fun p => runL (fa p) st (cnt p)).length := by
        conv => rhs; rw [← List.take_append_drop (i + 1) items, List.flatMap_append, List.length_append]
        exact Nat.le_add_right _ _
      rw [e1, List.length_append, runL_length, ← hys.length] at e2
      omega
    have push₅ : ∀ b o, h₄.get? b = some o → (h₄.push { cls := .type "range_iterator", data := .fields #[rawInt (fa p), rawInt (Builtin.Range.rangeSize (fa p) (fb p) st), rawInt st] }).get? b = some o := fun b o e => Heap.get?_push_of_some _ e
    refine wpAny_bind (wpAny_runOwn (two_startR (x0 := fa p) (left := Builtin.Range.rangeSize (fa p) (fb p) st) (step := st) (Heap.get?_push_size _ rfl) ?_))
    · refine two_inner (a := fa p) (st := st) (n := cnt p) hh hky hk3 hd hDC (fun e => absurd dlt (by rw [e]; exact Nat.lt_irrefl _)) (fun e => absurd clt (by rw [show C = h₄.objs.size from e]; exact Nat.lt_irrefl _)) ?_ (hD₄.at fun o e => push₅ _ o e) (hC₄.keeps push₅) hlen ?_
      · show IsRangeIter _ _ _ _ _
        rw [← (hsm p hpm).2]; exact Heap.get?_push_size _ rfl
      · intro h' tk' m'' zs hns _ hpl hzs hkk
        have hne : ∀ b o, h₄.get? b = some o → b ≠ C → b ≠ D → h'.get? b = some o := fun b o e h1 h2 => hkk b o h1 (fun e' => absurd (Heap.lt_size e) (by rw [e']; exact Nat.lt_irrefl _)) h2 (push₅ b o e)
        refine wpAny_pure ⟨rfl, items.length + 1 - (i + 1), by omega, i + 1, h', _, _, ys ++ zs, rfl, rfl, by omega, ?_, hns, hpl, ?_, ?_⟩
        · have st₂ := W.frame _ _ h₂ hst₁ fun b hb o e => hs₂.extBut b o (by rintro rfl; rcases List.mem_cons.mp hb with h | h; exact hCI h; exact hCa (List.mem_singleton.mp h)) e
          have st₄ := W.frame _ _ h₄ st₂ fun b _ o e => hk₄ b o e
          refine W.frame _ _ h' st₄ fun b hb o e => hne b o e ?_ ?_
          · rintro rfl; rcases List.mem_cons.mp hb with h | h; exact hCI h; exact hCa (List.mem_singleton.mp h)
          · rintro rfl; rcases List.mem_cons.mp hb with h | h; exact hDI h; exact hDa (List.mem_singleton.mp h)
        · rw [flatMap_take_succ _ _ _ _ hpi]; exact hys.append hzs
        · intro b o h1 h2 h3 e
          exact hne b o (hk₄ b o (up₂ b o h1 h2 (hk' b o h1 h2 h3 e))) h1 h3
  · have hin : i = items.length := by omega
    subst hin
    refine W.done _ _ _ (by rw [hsize]; exact hst') fun h₁ tk₁ hk₁ => wpAny_pure ?_
    have up : ∀ b o, b ≠ I → H.get? b = some o → h₁.get? b = some o := fun b o hb e => hk₁ b o (by rw [List.mem_singleton]; exact hb) e
    rw [List.take_length] at hys
    exact hR h₁ tk₁ m' ys (hn'.at' fun o e => up _ o hCI e) (hacc'.at fun o e => up D o hDI e) hys fun b o h1 h2 h3 e => up b o h2 (hk' b o h1 h2 h3 e)

theorem two_block {s₂ : Shared} {iter iter2 : PySem.Expr} {x y : Str} {px py pz : Pos} {scope : Scope} {cl : List (Str × Addr)} {pos : Pos} {I ax : Addr} {vs : List Value} {items : List Int} {RR : Value → Addr → Result → Shared → Prop}
    (fa fb : Int → Int) (cnt : Int → Nat) (st : Int)
    (hh : A.handled = none) (hv : IntsAre vs items) (hcell : ∀ y ∈ scope.names, y.2 ≠ .cell) (hkind : scope.kind = .function) (hx : scope.names.lookup x = some .local) (hy : scope.names.lookup y = some .local) (hxy : x ≠ y) (hd : (y == ("__debug__" : Str)) = false)
    (hs2 : ∀ env xv, foldedSetIterable iter2 env xv = pure xv) (hIa : ax ≠ I)
    (hq : InnerOk prog w A env scope cl x iter2 [I] items fa fb st s₂)
    (hsm : ∀ p ∈ items, Builtin.Range.small (fa p) (fb p) st = true ∧ Builtin.Range.rangeSize (fa p) (fb p) st = (cnt p : Int))
    (hsz : (items.flatMap fun p => runL (fa p) st (cnt p)).length ≤ sizeLine)
    (hit : s₂.heap.IsListIter I ax 0) (hl : s₂.heap.IsList ax vs.toArray)
    (hRR : ∀ D C h' tk m' ys, s₂.heap.get? D = none → s₂.heap.get? C = none → D ≠ C → h'.Ns C m' → h'.PlainList D (List.toArray ys) → IntsAre ys (items.flatMap fun p => runL (fa p) st (cnt p)) →
      (∀ b o, b ≠ I → s₂.heap.get? b = some o → h'.get? b = some o) → RR (.ref D) C (.ok .next) { s₂ with heap := h', toks := tk }) :
    wpAny (model prog w) A (newList []) (fun acc s₃ => wpAny (model prog w) A (newFunctionEnv scope env.globals cl [] env.qual none .none (some env)) (fun cenv s₄ =>
      codeAny (model prog w) A (.compStart (.ListComp (.Name y pz) [⟨.Name x px, iter, [], 0⟩, ⟨.Name y py, iter2, [], 0⟩] scope pos) 0 (.ref I) acc { cenv with scope := relabel scope env }) (RR acc cenv.locals) s₄) E s₃) E s₂ := by
  refine wpAny_newObj_type (wpAny_newFunctionEnv hcell (by intro y hy; simp at hy) (fun h₁ hns₁ hsb₁ => ?_) hkind)
  dsimp only at hns₁ hsb₁ ⊢
  generalize hH2 : s₂.heap.push { cls := .type "list", dict := none, data := .seq ([] : List Value).toArray } = H2 at hns₁ hsb₁ ⊢
  have hC : H2.objs.size = s₂.heap.objs.size + 1 := by rw [← hH2, Heap.size_push]
  have hDC : s₂.heap.objs.size ≠ H2.objs.size := by rw [hC]; exact Nat.ne_of_lt (Nat.lt_succ_self _)
  have hCle : s₂.heap.objs.size ≤ H2.objs.size := by rw [hC]; exact Nat.le_succ _
  have below : ∀ b, b < s₂.heap.objs.size → b ≠ H2.objs.size ∧ b ≠ s₂.heap.objs.size := fun b hb => ⟨by rw [hC]; exact Nat.ne_of_lt (Nat.lt_succ_of_lt hb), Nat.ne_of_lt hb⟩
  have old : ∀ b o, s₂.heap.get? b = some o → h₁.get? b = some o := fun b o e => hsb₁.extBut b o (below b (Heap.lt_size e)).1 (Heap.get?_push_of_some _ (hH2 ▸ Heap.get?_push_of_some _ e))
  have hacc : h₁.PlainList s₂.heap.objs.size #[] := ⟨_, hsb₁.extBut _ _ hDC (Heap.get?_push_of_some _ (hH2 ▸ Heap.get?_push_size _ rfl))⟩
  have fresh : ∀ a, s₂.heap.objs.size ≤ a → s₂.heap.get? a = none := fun a ha => by
    cases e : s₂.heap.get? a with
    | none => rfl
    | some o' => exact absurd (Heap.lt_size e) (Nat.not_lt.mpr ha)
  have ltI : @LT.lt Nat _ I s₂.heap.objs.size := by obtain ⟨o, ho, _⟩ := hit; exact Heap.lt_size ho
  have lta : @LT.lt Nat _ ax s₂.heap.objs.size := by obtain ⟨o, ho, _⟩ := hl; exact Heap.lt_size ho
  have loop : ∀ s₃ : Shared, s₃ = { s₂ with heap := h₁, toks := s₂.toks + ([] : List (Str × Value)).length } →
      codeAny (model prog w) A (.compLoop (.ListComp (.Name y pz) [⟨.Name x px, iter, [], 0⟩, ⟨.Name y py, iter2, [], 0⟩] scope pos) 0 (.ref I) (.ref s₂.heap.objs.size) (compEnvC scope cl H2.objs.size env))
        (RR (.ref s₂.heap.objs.size) H2.objs.size) s₃ := by
    rintro s₃ rfl
    refine two_outer fa fb cnt st hh hv hkind hx hy hxy hd hs2 hDC (Ne.symm (below I ltI).2) (Ne.symm (below ax lta).2) (Ne.symm (below I ltI).1) (Ne.symm (below ax lta).1) hIa hCle (Nat.le_refl _) old hq hsm hsz (hit.at fun o e => old _ o e) (hl.at fun o e => old _ o e) hacc hns₁ ?_
    intro h' tk m' ys hns hpl hys hk
    exact hRR _ _ h' tk m' ys (fresh _ (Nat.le_refl _)) (fresh _ hCle) hDC hns hpl hys fun b o hb e => hk b o (below b (Heap.lt_size e)).1 hb (below b (Heap.lt_size e)).2 (old b o e)
  exact codeAny_compStart_list (loop _ rfl) (wpAny_pyIter_listiter (hit.at fun o e => old _ o e) (loop _ rfl))

/-- `y = [far for place in ways for far in range(..)]` -/
theorem asg_two {s : Shared} {h₀ : Heap} {iter iter2 : PySem.Expr} {x y z : Str} {px py pz pw : Pos} {scope : Scope} {cl : List (Str × Addr)} {pos spos : Pos} {Q : Flow → Shared → Prop}
    (hh : A.handled = none)
    (hsw : swapsWith (.ListComp (.Name y pz) [⟨.Name x px, iter, [], 0⟩, ⟨.Name y py, iter2, [], 0⟩] scope pos) (some (.Name z pw)) spos.line env = pure true)
    (hclos : closureFor scope env = pure cl) (hcell : ∀ z ∈ scope.names, z.2 ≠ .cell) (hkind : scope.kind = .function)
    (hnames : ∀ z ∈ scope.names, z.2 = .local → scope.names.lookup z.1 = some .local) (hx : scope.names.lookup x = some .local) (hy : scope.names.lookup y = some .local) (hxy : x ≠ y) (hd : (y == ("__debug__" : Str)) = false)
    (hs2 : ∀ env xv, foldedSetIterable iter2 env xv = pure xv)
    (hz : env.kindOf z = some .local) (hp : (env.scope.kind == .class || (env.scope.kind == .module && env.locals != env.globals)) = false)
    (h : wpAny (model prog w) A (eval iter env) (fun xv s₁ => ∃ (ax : Addr) (vs : List Value) (items : List Int) (fa fb : Int → Int) (cnt : Int → Nat) (st : Int) (m : Str → Option Value) (news : List (Addr × Obj)), xv = .ref ax ∧ s₁.heap.IsList ax (List.toArray vs) ∧ IntsAre vs items ∧ Fr h₀ env.locals s₁.heap m ∧ News h₀ env.locals s₁.heap news ∧
      (∀ C (p : Int) t s₃ m₃ E', p ∈ items → s₃.heap.Ns C m₃ → m₃ x = some (.int p t) → (∀ b o, s₁.heap.get? b = some o → s₃.heap.get? b = some o) →
        wpAny (model prog w) A (eval iter2 (compEnvC scope cl C env)) (fun v s₄ => (∃ r t u z, v = .ref r ∧ IsRange s₄.heap r (fa p) (fb p) st t u z) ∧ Keeps s₃ s₄) E' s₃) ∧
      (∀ p ∈ items, Builtin.Range.small (fa p) (fb p) st = true ∧ Builtin.Range.rangeSize (fa p) (fb p) st = ((cnt p : Nat) : Int)) ∧
      (items.flatMap fun p => runL (fa p) st (cnt p)).length ≤ sizeLine ∧
      (∀ D h' tk ys c, Fr h₀ env.locals h' (fun u => if u = z then some (.ref D) else m u) → News h₀ env.locals h' ((D, W.listOf (List.toArray ys) c) :: news) → (∀ p ∈ news, p.1 ≠ D) →
        IntsAre ys (items.flatMap fun p => runL (fa p) st (cnt p)) → Q .next { s₁ with heap := h', toks := tk })) E s)
    (hs : ∀ x, foldedSetIterable iter env x = pure x := by intro _; rfl) :
    wpAny (model prog w) A (exec (.Assign [.Name z pw] (.ListComp (.Name y pz) [⟨.Name x px, iter, [], 0⟩, ⟨.Name y py, iter2, [], 0⟩] scope pos) spos) env) Q E s := by
  rw [exec_Assign_Name_used _ _ _ _ hsw]
  refine wpAny_bind (wpAny_standAt (wpAny_bind ?_))
  show wpAny _ A (do let _ ← comprehension (.ListComp (.Name y pz) [⟨.Name x px, iter, [], 0⟩, ⟨.Name y py, iter2, [], 0⟩] scope pos) scope env _ (newList []) false (eval iter env) (some (assign (.Name z pw) env))) _ _ s
  refine wpAny_bind (wpAny_mono (wpAny_comprehension_free (use := some (assign (.Name z pw) env)) (Q := fun _ s' => Q .next s') rfl hs hclos hkind hnames
    (wpAny_mono h (fun xv s₁ h₁ => ?_) fun _ _ e => e)) (fun _ s' hq => wpAny_pure (wpAny_pure hq)) fun _ _ e => e)
  obtain ⟨ax, vs, items, fa, fb, cnt, st, m, news, rfl, hl, hv, F, N, hin, hsm, hsz, hQ⟩ := h₁
  have lta : @LT.lt Nat _ ax s₁.heap.objs.size := by obtain ⟨o, ho, _⟩ := hl; exact Heap.lt_size ho
  refine wpAny_pyIter_list hl ?_
  have hLI : env.locals ≠ s₁.heap.objs.size := Nat.ne_of_lt F.ns.lt
  refine two_block (RR := fun acc C => compPost (model prog w) A E (some (assign (.Name z pw) env)) (fun _ s' => Q .next s') acc C) fa fb cnt st hh hv hcell hkind hx hy hxy hd hs2 (Nat.ne_of_lt lta) ?_ hsm hsz ⟨_, Heap.get?_push_size _ rfl, rfl, rfl⟩ (hl.at fun o e => Heap.get?_push_of_some _ e) ?_
  · intro C p t s₃ m₃ E' _ hp₃ hn₃ hx₃ hk₃
    exact hin C p t s₃ m₃ E' hp₃ hn₃ hx₃ fun b o e => hk₃ b o (fun hm => absurd (Heap.lt_size e) (by rw [List.mem_singleton.mp hm]; exact Nat.lt_irrefl _)) (Heap.get?_push_of_some _ e)
  · intro D C h' tk m' ys hD hC hDC hnC hpl hys hk
    have hk' : ∀ b o, s₁.heap.get? b = some o → h'.get? b = some o := fun b o e => hk b o (fun hb => absurd (Heap.lt_size e) (by rw [hb]; exact Nat.lt_irrefl _)) (Heap.get?_push_of_some _ e)
    have hnot : ∀ b, (s₁.heap.push { cls := .type "list_iterator", data := .fields #[.ref ax, .int 0 0] }).get? b = none → ∀ o, s₁.heap.get? b ≠ some o := fun b hb o e => by
      have := Heap.get?_push_of_some { cls := .type "list_iterator", data := .fields #[.ref ax, .int 0 0] } e
      rw [hb] at this; cases this
    have hold : ∀ b o, s₁.heap.get? b = some o → b ≠ D := fun b o e hb => hnot D hD o (hb ▸ e)
    have holdC : ∀ b o, s₁.heap.get? b = some o → b ≠ C := fun b o e hb => hnot C hC o (hb ▸ e)
    have hLC : env.locals ≠ C := by obtain ⟨o, _, _, ho, _⟩ := F.ns; exact holdC _ _ ho
    have hLD : env.locals ≠ D := by obtain ⟨o, _, _, ho, _⟩ := F.ns; exact hold _ _ ho
    show wpAny _ A (assign (.Name z pw) env (.ref D)) _ _ _
    refine wpAny_assign_Name (wpAny_storeName_local hz (F.ns.at' fun o e => hk' _ o e) (fun h₂ hn₂ hs₂ => ?_) hp)
    refine ⟨m', hnC.sameBut hs₂ (Ne.symm hLC), fun h₃ hs₃ => ?_⟩
    have hk3 : ∀ b o, b ≠ env.locals → s₁.heap.get? b = some o → h₃.get? b = some o := fun b o hb e => hs₃.extBut b o (holdC b o e) (hs₂.extBut b o hb (hk' b o e))
    have hpl₃ := (hpl.extBut hs₂.extBut (Ne.symm hLD)).extBut hs₃.extBut hDC
    obtain ⟨c, hpl₃⟩ := hpl₃
    have F' : Fr h₀ env.locals h₃ (fun u => if u = z then some (.ref D) else m u) := ⟨hn₂.sameBut hs₃ hLC, fun b o e => hk3 b o (Nat.ne_of_lt (Nat.lt_of_lt_of_le (Heap.lt_size e) F.above)) (F.keep b o e), F.above⟩
    refine hQ D h₃ _ ys c F' ?_ (fun p hp e => hold _ _ (N p hp).1 e) hys
    intro p hp
    rcases List.mem_cons.mp hp with rfl | hp
    · refine ⟨hpl₃, Ne.symm hLD, ?_⟩
      cases q : h₀.get? D with
      | none => rfl
      | some o => exact absurd rfl (hold _ _ (F.keep _ _ q))
    · exact ⟨hk3 _ _ (N p hp).2.1 (N p hp).1, (N p hp).2⟩
end
end Mine
namespace Mine
open PySem.Builtin PyProof.V PySem.Spec

theorem ints_of_paired (pz : Int → Bool) (f : Int → Int) (p : Value → Bool) (hp : ∀ (i : Int) t, p (.int i t) = pz i) {vs : List Value} {items : List Int} (hv : IntsAre vs items) :
    ∀ {ys : List Value}, Paired (fun v y => ∀ i t, v = .int i t → ∃ t', y = Value.int (f i) t') (vs.filter p) ys → IntsAre ys ((items.filter pz).map f) := by
  induction hv with
  | nil => intro ys h; cases h; exact .nil
  | cons n t hv' ih =>
    intro ys h
    rw [List.filter_cons, hp] at h
    rw [List.filter_cons]
    cases hpz : pz n with
    | false => rw [hpz] at h; simp only [Bool.false_eq_true, if_false] at h ⊢; exact ih h
    | true =>
      rw [hpz] at h
      simp only [if_true] at h ⊢
      cases h with
      | cons h1 h2 =>
        obtain ⟨t', rfl⟩ := h1 n t rfl
        exact .cons _ _ (ih h2)

section
variable {prog : Program} {w : World} {A : Around} {E : Value → Shared → Prop} {s : Shared} {env : Env} {h₀ : Heap}
/-- `y = [elt for x in ints if c]` -/
theorem asg_ints {x y : Str} {px py : Pos} {elt iter c : PySem.Expr} {scope : Scope} {cl : List (Str × Addr)} {pos spos : Pos} {Q : Flow → Shared → Prop} (pz : Int → Bool) (f : Int → Int)
    (hh : A.handled = none)
    (hsw : swapsWith (.ListComp elt [⟨.Name x px, iter, [c], 0⟩] scope pos) (some (.Name y py)) spos.line env = pure true)
    (hclos : closureFor scope env = pure cl) (hcell : ∀ z ∈ scope.names, z.2 ≠ .cell) (hkind : scope.kind = .function)
    (hnames : ∀ z ∈ scope.names, z.2 = .local → scope.names.lookup z.1 = some .local) (hx : scope.names.lookup x = some .local)
    (hy : env.kindOf y = some .local) (hp : (env.scope.kind == .class || (env.scope.kind == .module && env.locals != env.globals)) = false)
    (h : wpAny (model prog w) A (eval iter env) (fun xv s₁ => ∃ (ax : Addr) (vs : List Value) (items : List Int) (m : Str → Option Value) (news : List (Addr × Obj)), xv = .ref ax ∧ s₁.heap.IsList ax (List.toArray vs) ∧ IntsAre vs items ∧ items.length ≤ 1000000 ∧ Fr h₀ env.locals s₁.heap m ∧ News h₀ env.locals s₁.heap news ∧
      (∀ C s₃ m₃ E' (p : Int) t, p ∈ items → s₃.heap.Ns C m₃ → m₃ x = some (.int p t) → (∀ b o, s₁.heap.get? b = some o → s₃.heap.get? b = some o) →
        wpAny (model prog w) A (isTrue c (compEnvC scope cl C env) (eval c (compEnvC scope cl C env))) (fun ok s₄ => ok = pz p ∧ Keeps s₃ s₄) E' s₃) ∧
      (∀ C s₃ m₃ E' (p : Int) t, p ∈ items → pz p = true → s₃.heap.Ns C m₃ → m₃ x = some (.int p t) → (∀ b o, s₁.heap.get? b = some o → s₃.heap.get? b = some o) →
        wpAny (model prog w) A (eval elt (compEnvC scope cl C env)) (fun v s₄ => (∃ t', v = .int (f p) t') ∧ Keeps s₃ s₄) E' s₃) ∧
      (∀ D h' tk ys c, Fr h₀ env.locals h' (fun z => if z = y then some (.ref D) else m z) → News h₀ env.locals h' ((D, W.listOf (List.toArray ys) c) :: news) → (∀ p ∈ news, p.1 ≠ D) →
        IntsAre ys ((items.filter pz).map f) → Q .next { s₁ with heap := h', toks := tk })) E s)
    (hs : ∀ x, foldedSetIterable iter env x = pure x := by intro _; rfl) :
    wpAny (model prog w) A (exec (.Assign [.Name y py] (.ListComp elt [⟨.Name x px, iter, [c], 0⟩] scope pos) spos) env) Q E s := by
  refine wpAny_Assign_ListComp_free (fun v => match v with | .int k _ => pz k | _ => false) (fun v y => ∀ i t, v = .int i t → ∃ t', y = Value.int (f i) t') hsw hclos hcell hkind hnames hx hy hp (wpAny_mono h (fun xv s₁ h₁ => ?_) fun _ _ e => e) hs
  obtain ⟨ax, vs, items, m, news, rfl, hl, hv, hlen, F, N, ht, he, hQ⟩ := h₁
  have lta : @LT.lt Nat _ ax s₁.heap.objs.size := by obtain ⟨o, ho, _⟩ := hl; exact Heap.lt_size ho
  refine wpAny_pyIter_list hl ?_
  have W := Walks.list (prog := prog) (w := w) hh s₁.heap.objs.size ax (Nat.ne_of_lt lta) vs.toArray
  have hLI : env.locals ≠ s₁.heap.objs.size := Nat.ne_of_lt F.ns.lt
  have hnI : ∀ b o, s₁.heap.get? b = some o → b ∉ [s₁.heap.objs.size] := fun b o e hm => absurd (Heap.lt_size e) (by rw [List.mem_singleton.mp hm]; exact Nat.lt_irrefl _)
  have item : ∀ {i : Nat} {v : Value}, vs.toArray[i]? = some v → ∃ p t, p ∈ items ∧ v = .int p t := by
    intro i v hi
    have hi' : vs[i]? = some v := by simpa using hi
    cases q : items[i]? with
    | none =>
      have := List.getElem?_eq_none_iff.mp q
      rw [← hv.length] at this
      rw [List.getElem?_eq_none this] at hi'; cases hi'
    | some p =>
      obtain ⟨t, e⟩ := hv.get i p q
      rw [hi'] at e
      exact ⟨p, t, List.mem_of_getElem? q, Option.some.inj e⟩
  refine ⟨_, _, _, vs.toArray.size, _, _, m, rfl, W, by rw [List.size_toArray, hv.length, sizeLine_eq]; omega, ⟨⟨_, Heap.get?_push_size _ rfl, rfl, rfl⟩, hl.at fun o e => Heap.get?_push_of_some _ e⟩, ?_, ?_, F.ns.push _, ⟨?_, ?_⟩, ?_⟩
  · intro b hb
    rw [Heap.size_push]
    rcases List.mem_cons.mp hb with rfl | hb
    · exact Nat.lt_succ_self _
    · rw [List.mem_singleton.mp hb]; exact Nat.lt_succ_of_lt lta
  · intro hm; exact hLI (List.mem_singleton.mp hm)
  · intro C i v s₃ m₃ E' hC hi hn₃ hx₃ hk _
    obtain ⟨p, t, hpm, rfl⟩ := item hi
    exact wpAny_tests_one (ht C s₃ m₃ E' p t hpm hn₃ hx₃ fun b o e => hk b o (hnI b o e) (Heap.get?_push_of_some _ e))
  · intro C i v s₃ m₃ E' hC hi hpv hn₃ hx₃ hk _
    obtain ⟨p, t, hpm, rfl⟩ := item hi
    refine wpAny_mono (he C s₃ m₃ E' p t hpm hpv hn₃ hx₃ fun b o e => hk b o (hnI b o e) (Heap.get?_push_of_some _ e)) (fun y s₄ hq => ⟨?_, hq.2⟩) fun _ _ e => e
    obtain ⟨⟨t', rfl⟩, _⟩ := hq
    intro i t e
    cases e
    exact ⟨t', rfl⟩
  · intro D h' tk ys vs' hD hl' hpl hlen' hP hF hns hk
    obtain ⟨c, hpl⟩ := hpl
    have hvs : vs' = vs := by
      apply List.ext_getElem?
      intro j
      cases q : vs'[j]? with
      | none =>
        have := List.getElem?_eq_none_iff.mp q
        rw [hlen', List.size_toArray] at this
        rw [List.getElem?_eq_none this]
      | some v => have := hP j v q; rw [← this]; simp
    subst hvs
    have hk' : ∀ b o, b ≠ env.locals → s₁.heap.get? b = some o → h'.get? b = some o := fun b o hb e => hk b o hb (hnI b o e) (Heap.get?_push_of_some _ e)
    have hold : ∀ b o, s₁.heap.get? b = some o → b ≠ D := fun b o e hb => by
      have := Heap.get?_push_of_some { cls := .type "list_iterator", data := .fields #[.ref ax, .int 0 0] } e
      rw [hb] at this
      rw [show (s₁.heap.push { cls := .type "list_iterator", data := .fields #[.ref ax, .int 0 0] }).get? D = none from hD] at this
      cases this
    have hDL : D ≠ env.locals := fun e => by
      obtain ⟨oL, _, _, hoL, _⟩ := F.ns
      exact hold _ _ hoL e.symm
    have F' : Fr h₀ env.locals h' (fun z => if z = y then some (.ref D) else m z) := ⟨hns, fun b o e => hk' b o (Nat.ne_of_lt (Nat.lt_of_lt_of_le (Heap.lt_size e) F.above)) (F.keep b o e), F.above⟩
    refine hQ D h' tk ys.toList c F' ?_ (fun p hp e => hold _ _ (N p hp).1 e) (ints_of_paired pz f _ (fun _ _ => rfl) hv hF)
    intro p hp
    rcases List.mem_cons.mp hp with rfl | hp
    · refine ⟨hpl, hDL, ?_⟩
      cases q : h₀.get? D with
      | none => rfl
      | some o => exact absurd rfl (hold _ _ (F.keep _ _ q))
    · exact ⟨hk' _ _ (N p hp).2.1 (N p hp).1, (N p hp).2⟩
end
end Mine
namespace Mine
open PySem.Builtin

local macro_rules | `(tactic| walk_at "my steps") => `(tactic| repeat' (first | (k_unfold; (try dsimp only)) | ((fail_if_success (with_reducible show wpAny _ _ (pyIter _) _ _ _)); (fail_if_success (with_reducible show Exists _)); (fail_if_success (with_reducible show wpAny _ _ (exec (Stmt.While _ _ _ _) _) _ _ _)); (fail_if_success (with_reducible show wpAny _ _ (call (Value.ref _) _) _ _ _)); (first | walk1 | (dsimp only; walk1)); (try dsimp only))))

theorem item_tl {x : Str} {i : Int} {c : Nat} (h0 : 0 ≤ i) (h : (tl x)[i.toNat]? = some c) : Txt.item x i = ⟨#[c]⟩ := by
  have hl : i.toNat < x.cps.size := by
    have := (List.getElem?_eq_some_iff.mp h).1
    simpa [tl] using this
  have e : x.cps[i.toNat]? = some c := by simpa [tl] using h
  rw [item_meets ⟨h0, by show i < (x.cps.size : Int); omega⟩, Array.getD_eq_getD_getElem?, e]; rfl

theorem one_eq (c d : Nat) : ((⟨#[c]⟩ : Str) == ⟨#[d]⟩) = (c == d) := by
  by_cases h : c = d
  · subst h; simp
  · have : (⟨#[c]⟩ : Str) ≠ ⟨#[d]⟩ := fun e => h (by injection e with e; simpa using e)
    rw [beq_eq_false_iff_ne.mpr this, beq_eq_false_iff_ne.mpr h]
theorem sg_bs : Str.ofString "\\" = ⟨#[92]⟩ := by decide
theorem sg_cl : Str.ofString ")" = ⟨#[41]⟩ := by decide

inductive Shut : List Nat → Prop
  | nil : Shut []
  | esc (d : Nat) {r : List Nat} : Shut r → Shut (92 :: d :: r)
  | sign (c : Nat) {r : List Nat} : c ≠ 41 → c ≠ 92 → Shut r → Shut (c :: r)
theorem Shut.append {a b : List Nat} (ha : Shut a) (hb : Shut b) : Shut (a ++ b) := by
  induction ha with
  | nil => exact hb
  | esc d _ ih => exact .esc d ih
  | sign c h1 h2 _ ih => exact .sign c h1 h2 ih

def atL (x : Str) (t : Tok) (i : Int) (u : Tok) (y : Str) : Option Value := if y = Str.ofString "at" then some (.int i u) else List.lookup y [(Str.ofString "text", Value.str x t)]

set_option maxHeartbeats 8000000 in
theorem close_spec {prog : Program} {w : World} {mean : ExcName → Option Value} {mg mb : Str → Option Value} {A : Around} {s : Shared} {x : Str} {t u : Tok} {at' : Int} {Q E : Value → Shared → Prop} {pre b post : List Nat}
    (C : Cx (hd3.heap_39 w.params) hd3.view_39 (looseW hd3.view_39 [Str.ofString "_special_chars_map"]) mean mg mb A s.heap 3) (hx : x.length ≤ 100000) (hpre : at' = pre.length) (htl : tl x = pre ++ b ++ 41 :: post) (hb : Shut b)
    (hQ : ∀ h' tk tk', s.heap.StaysIn h' → Q (.int ((pre.length + b.length : Nat) : Int) tk) { s with heap := h', toks := tk' }) : wpAny (model prog w) A (call (.ref 40) [.str x t, .int at' u]) Q E s := by
  refine fillK ?_
  k_fill
  intro _ _
  refine fn_call C (by k_is) (by k_is) rfl (locs rfl) ?_
  intro L h₁ tk hF hN
  have X := C.K
  have T := C.T
  walk_at "my steps"
  refine While_inv2 (fun n m news => news = [] ∧ ∃ (i : Int) (t' : Tok) (pre' b' : List Nat), m = atL x t i t' ∧ i = pre'.length ∧ tl x = pre' ++ b' ++ 41 :: post ∧ Shut b' ∧ pre'.length + b'.length = pre.length + b.length ∧ n = b'.length) hF hN ⟨rfl, at', u, pre, b, ?_, hpre, htl, hb, rfl, rfl⟩ ?_
  · funext y
    show List.lookup y [(Str.ofString "at", Value.int at' u), (Str.ofString "text", Value.str x t)] = _
    rw [lookup_cons_if]; rfl
  · rintro n m₁ news₁ h₂ tk₂ hF2 hN2 ⟨rfl, i, t', pre', b', rfl, rfl, htl', hb', hlen, rfl⟩
    have hxl : x.length = pre'.length + b'.length + 1 + post.length := by
      rw [← tl_length, htl']; simp; omega
    have his : ∀ c, (tl x)[pre'.length]? = some c → Txt.item x (pre'.length : Int) = ⟨#[c]⟩ := fun c hc => item_tl (by omega) (by simpa using hc)
    have hfill : ∀ (i : Int) (u : Tok) (v : Option Value), (fun y => if y = Str.ofString "at" then v else atL x t i u y) = fun y => if y = Str.ofString "at" then v else List.lookup y [(Str.ofString "text", Value.str x t)] := by
      intro i u v
      funext y
      unfold atL
      by_cases hy : y = Str.ofString "at" <;> simp [hy]
    walk_at "my steps"
    · rename (_ != _) = true => hne
      rename (_ == _) = true => hbs
      rename Fr _ _ _ _ => hF3
      rename News _ _ _ _ => hN3
      cases hb' with
      | nil =>
        rw [his 41 (by rw [htl']; simp)] at hne
        exact absurd hne (by decide)
      | sign c h1 h2 hr =>
        rw [his c (by rw [htl']; simp)] at hbs
        rw [sg_bs, one_eq] at hbs
        exact absurd (eq_of_beq hbs) h2
      | @esc d r hr =>
        rw [hfill] at hF3
        refine ⟨_, _, _, _, r.length, rfl, hF3, hN3, by simp only [List.length_cons]; omega, rfl, _, _, pre' ++ [92, d], r, rfl, by simp, by rw [htl']; simp, hr, by simp at hlen ⊢; omega, rfl⟩
    · rename (_ != _) = true => hne
      rename (_ == _) = false => hbs
      rename Fr _ _ _ _ => hF3
      rename News _ _ _ _ => hN3
      cases hb' with
      | nil =>
        rw [his 41 (by rw [htl']; simp)] at hne
        exact absurd hne (by decide)
      | esc d hr =>
        rw [his 92 (by rw [htl']; simp)] at hbs
        exact absurd hbs (by decide)
      | @sign c r h1 h2 hr =>
        rw [hfill] at hF3
        refine ⟨_, _, _, _, r.length, rfl, hF3, hN3, by simp only [List.length_cons]; omega, rfl, _, _, pre' ++ [c], r, rfl, by simp, by rw [htl']; simp, hr, by simp at hlen ⊢; omega, rfl⟩
    · rename (_ != _) = false => hne
      cases hb' with
      | nil =>
        simp only [List.length_nil, Nat.add_zero] at hlen
        rw [hlen]
        exact hQ _ _ _ fun b o e => hF2.keep b o e
      | esc d hr =>
        rw [his 92 (by rw [htl']; simp)] at hne
        exact absurd hne (by decide)
      | sign c h1 h2 hr =>
        rw [his c (by rw [htl']; simp)] at hne
        rw [sg_cl, bne, one_eq, beq_eq_false_iff_ne.mpr h1] at hne
        cases hne
end Mine
namespace Mine
open PySem.Builtin

inductive Tk
  | lit (c : Nat)
  | lazy
  | greedy
  | group (b : List Nat)
def Tk.rend : Tk → List Nat
  | .lit c => esc1 c
  | .lazy => [46, 42, 63]
  | .greedy => [46, 42]
  | .group b => opn ++ E b ++ [41]
def rendL (l : List Tk) : List Nat := l.flatMap Tk.rend
def okc (c : Nat) : Prop := c ∈ [97, 98, 65, 46, 47]
def wf : List Tk → Prop
  | [] => True
  | .lit c :: r => okc c ∧ wf r
  | .lazy :: r => wf r
  | .greedy :: r => (rendL r)[0]? ≠ some 63 ∧ wf r
  | .group b :: r => (∀ c ∈ b, okc c) ∧ wf r
def Tk.multi : Tk → Nat
  | .lazy => 1
  | .greedy => 1
  | _ => 0
def cntM (l : List Tk) : Nat := (l.map Tk.multi).sum
/-- how a literal, a lazy and a greedy star turn the places -/
def stepLit (nl : List Nat) (c : Nat) (ws : List Int) : List Int := (ws.filter fun p => nl[p.toNat]? == some c).map fun p => p + 1
def stepLazy (nl : List Nat) (ws : List Int) : List Int := ws.flatMap fun p => runL p 1 (nl.length + 1 - p.toNat)
def stepGreedy (nl : List Nat) (ws : List Int) : List Int := ws.flatMap fun p => runL nl.length (-1) (nl.length + 1 - p.toNat)
def runB (nl : List Nat) (b : List Nat) (ws : List Int) : List Int := b.foldl (fun ws c => stepLit nl c ws) ws
def step (nl : List Nat) : Tk → List Int → List Int
  | .lit c, ws => stepLit nl c ws
  | .lazy, ws => stepLazy nl ws
  | .greedy, ws => stepGreedy nl ws
  | .group b, ws => ws.flatMap fun p => (runB nl b (stepLazy nl [p])).take 1
def runT (nl : List Nat) (toks : List Tk) (ws : List Int) : List Int := toks.foldl (fun ws t => step nl t ws) ws
theorem runT_cons (nl : List Nat) (t : Tk) (r : List Tk) (ws : List Int) : runT nl (t :: r) ws = runT nl r (step nl t ws) := rfl
theorem runT_lits (nl : List Nat) (b : List Nat) : ∀ ws, runT nl (b.map .lit) ws = runB nl b ws := by
  induction b with
  | nil => intro ws; rfl
  | cons c b ih => intro ws; exact ih _
def WSpec (toks : List Tk) (dd : Nat) : Prop :=
  ∀ {prog : Program} {w : World} {mean : ExcName → Option Value} {mg mb : Str → Option Value} {A : Around} {s : Shared} {x nm : Str} {t u : Tok} {D : Addr} {vs : List Value} {ws : List Int} {Q E : Value → Shared → Prop},
    Cx (hd3.heap_39 w.params) hd3.view_39 (looseW hd3.view_39 [Str.ofString "_special_chars_map"]) mean mg mb A s.heap dd → x.length ≤ 1000 → nm.length ≤ 100 → tl x = rendL toks → s.heap.IsList D vs.toArray → IntsAre vs ws → ws.length ≤ 1 → (∀ p ∈ ws, 0 ≤ p ∧ p ≤ nm.length) →
    (∀ h' tk' D' vs' c, s.heap.StaysIn h' → h'.get? D' = some (W.listOf (List.toArray vs') c) → s.heap.get? D' = none → IntsAre vs' (runT (tl nm) toks ws) → Q (.ref D') { s with heap := h', toks := tk' }) →
    wpAny (model prog w) A (call (.ref 45) [.str x t, .str nm u, .ref D]) Q E s

theorem rendL_cons (t : Tk) (r : List Tk) : rendL (t :: r) = t.rend ++ rendL r := rfl
theorem okc_cases {c : Nat} (h : okc c) : (c ∈ [97, 98, 65, 47] ∧ esc1 c = [c]) ∨ (c = 46 ∧ esc1 c = [92, 46]) := by
  unfold okc at h
  simp only [List.mem_cons, List.not_mem_nil, or_false] at h
  rcases h with rfl | rfl | rfl | rfl | rfl
  · exact .inl ⟨by decide, by decide⟩
  · exact .inl ⟨by decide, by decide⟩
  · exact .inl ⟨by decide, by decide⟩
  · exact .inr ⟨rfl, by decide⟩
  · exact .inl ⟨by decide, by decide⟩
theorem rest_cases {rest : List Tk} (h : wf rest) : rest = [] ∨ (∃ c r, rest = .lit c :: r ∧ c ∈ [97, 98, 65, 47] ∧ rendL rest = c :: rendL r) ∨ (∃ r, rest = .lit 46 :: r ∧ rendL rest = 92 :: 46 :: rendL r) ∨
    (∃ r, rest = .lazy :: r ∧ rendL rest = 46 :: 42 :: 63 :: rendL r) ∨ (∃ r, rest = .greedy :: r ∧ rendL rest = 46 :: 42 :: rendL r ∧ (rendL r)[0]? ≠ some 63) ∨
    (∃ b r, rest = .group b :: r ∧ (∀ c ∈ b, okc c) ∧ rendL rest = 40 :: 63 :: 62 :: (46 :: 42 :: 63 :: E b) ++ 41 :: rendL r) := by
  cases rest with
  | nil => exact .inl rfl
  | cons k r =>
    right
    cases k with
    | lit c =>
      rcases okc_cases h.1 with ⟨h1, h2⟩ | ⟨rfl, h2⟩
      · left; exact ⟨c, r, rfl, h1, by rw [rendL_cons, Tk.rend, h2]; rfl⟩
      · right; left; exact ⟨r, rfl, by rw [rendL_cons, Tk.rend, h2]; rfl⟩
    | lazy => right; right; left; exact ⟨r, rfl, rfl⟩
    | greedy => right; right; right; left; exact ⟨r, rfl, rfl, h.1⟩
    | group b => right; right; right; right; exact ⟨b, r, rfl, h.1, by rw [rendL_cons, Tk.rend, opn]; simp⟩
theorem wf_tail {k : Tk} {r : List Tk} (h : wf (k :: r)) : wf r := by
  cases k with
  | lit c => exact h.2
  | lazy => exact h
  | greedy => exact h.2
  | group b => exact h.2

theorem slice_beq {x p : Str} {pre r : List Nat} (h : tl x = pre ++ r) (k : Nat) : (Txt.slice x (some (pre.length : Int)) (some ((pre.length : Int) + (k : Int))) == p) = (r.take k == tl p) := by
  have e : tl (Txt.slice x (some (pre.length : Int)) (some ((pre.length : Int) + (k : Int)))) = r.take k := by
    rw [slice_mid_tl (by omega) (by rw [h, List.length_append]; omega) (by omega), h, Int.toNat_natCast, List.drop_left]
    congr 1; omega
  by_cases h1 : Txt.slice x (some (pre.length : Int)) (some ((pre.length : Int) + (k : Int))) = p
  · rw [h1, beq_self_eq_true, ← e, h1, beq_self_eq_true]
  · rw [beq_eq_false_iff_ne.mpr h1, ← e]
    exact (beq_eq_false_iff_ne.mpr fun he => h1 (str_ext he)).symm

theorem leaf_group {rest : List Tk} (h : wf rest) (h3 : ((rendL rest).take 3 == [40, 63, 62]) = true) : ∃ b r, rest = .group b :: r ∧ (∀ c ∈ b, okc c) ∧ rendL rest = 40 :: 63 :: 62 :: (46 :: 42 :: 63 :: E b) ++ 41 :: rendL r := by
  rcases rest_cases h with rfl | ⟨c, r, rfl, hc, e⟩ | ⟨r, rfl, e⟩ | ⟨r, rfl, e⟩ | ⟨r, rfl, e, h63⟩ | h
  · cases h3
  · rw [e] at h3; have := eq_of_beq h3
    simp at this; obtain ⟨rfl, _⟩ := this; simp at hc
  · rw [e] at h3; have := eq_of_beq h3; simp at this
  · rw [e] at h3; have := eq_of_beq h3; simp at this
  · rw [e] at h3; have := eq_of_beq h3; simp at this
  · exact h
theorem leaf_lazy {rest : List Tk} (h : wf rest) (h3 : ((rendL rest).take 3 == [46, 42, 63]) = true) : ∃ r, rest = .lazy :: r ∧ rendL rest = 46 :: 42 :: 63 :: rendL r := by
  rcases rest_cases h with rfl | ⟨c, r, rfl, hc, e⟩ | ⟨r, rfl, e⟩ | h | ⟨r, rfl, e, h63⟩ | ⟨b, r, rfl, _, e⟩
  · cases h3
  · rw [e] at h3; have := eq_of_beq h3
    simp at this; obtain ⟨rfl, _⟩ := this; simp at hc
  · rw [e] at h3; have := eq_of_beq h3; simp at this
  · exact h
  · rw [e] at h3; have := eq_of_beq h3
    cases q : rendL r with
    | nil => rw [q] at this; simp at this
    | cons a l => rw [q] at this h63; simp at this h63; exact absurd this h63
  · rw [e] at h3; have := eq_of_beq h3; simp at this
theorem leaf_greedy {rest : List Tk} (h : wf rest) (h3 : ((rendL rest).take 3 == [46, 42, 63]) = false) (h2 : ((rendL rest).take 2 == [46, 42]) = true) : ∃ r, rest = .greedy :: r ∧ rendL rest = 46 :: 42 :: rendL r := by
  rcases rest_cases h with rfl | ⟨c, r, rfl, hc, e⟩ | ⟨r, rfl, e⟩ | ⟨r, rfl, e⟩ | ⟨r, rfl, e, h63⟩ | ⟨b, r, rfl, _, e⟩
  · cases h2
  · rw [e] at h2; have := eq_of_beq h2
    simp at this; obtain ⟨rfl, _⟩ := this; simp at hc
  · rw [e] at h2; have := eq_of_beq h2; simp at this
  · rw [e] at h3; simp at h3
  · exact ⟨r, rfl, e⟩
  · rw [e] at h2; have := eq_of_beq h2; simp at this
/-- what is left: a sign, plain or behind a backslash -/
theorem leaf_lit {rest : List Tk} (h : wf rest) (hne : rest ≠ []) (h1 : ((rendL rest).take 3 == [40, 63, 62]) = false) (h3 : ((rendL rest).take 3 == [46, 42, 63]) = false) (h2 : ((rendL rest).take 2 == [46, 42]) = false) :
    (∃ c r, rest = .lit c :: r ∧ c ∈ [97, 98, 65, 47] ∧ rendL rest = c :: rendL r) ∨ (∃ r, rest = .lit 46 :: r ∧ rendL rest = 92 :: 46 :: rendL r) := by
  rcases rest_cases h with rfl | h | h | ⟨r, rfl, e⟩ | ⟨r, rfl, e, h63⟩ | ⟨b, r, rfl, _, e⟩
  · exact absurd rfl hne
  · exact .inl h
  · exact .inr h
  · rw [e] at h3; simp at h3
  · rw [e] at h2; simp at h2
  · rw [e] at h1; simp at h1
theorem rend_pos {rest : List Tk} (h : wf rest) (hne : rest ≠ []) : 0 < (rendL rest).length := by
  rcases rest_cases h with rfl | ⟨c, r, rfl, hc, e⟩ | ⟨r, rfl, e⟩ | ⟨r, rfl, e⟩ | ⟨r, rfl, e, h63⟩ | ⟨b, r, rfl, _, e⟩
  · exact absurd rfl hne
  all_goals (rw [e]; simp)
theorem lits_wf {b : List Nat} (h : ∀ c ∈ b, okc c) : wf (b.map .lit) := by
  induction b with
  | nil => trivial
  | cons c b ih => exact ⟨h c (.head _), ih fun d hd => h d (.tail _ hd)⟩
theorem lits_rend (b : List Nat) : rendL (b.map .lit) = E b := by
  induction b with
  | nil => rfl
  | cons c b ih => rw [List.map_cons, rendL_cons, ih]; rfl
theorem lits_cnt (b : List Nat) : cntM (b.map .lit) = 0 := by
  induction b with
  | nil => rfl
  | cons c b ih => show 0 + cntM _ = 0; rw [ih]
theorem E_shut {b : List Nat} (h : ∀ c ∈ b, okc c) : Shut (E b) := by
  induction b with
  | nil => exact .nil
  | cons c b ih =>
    have e : E (c :: b) = esc1 c ++ E b := rfl
    rw [e]
    rcases okc_cases (h c (.head _)) with ⟨h1, h2⟩ | ⟨rfl, h2⟩
    · rw [h2]; refine .sign c ?_ ?_ (ih fun d hd => h d (.tail _ hd))
      · rintro rfl; simp at h1
      · rintro rfl; simp at h1
    · rw [h2]; exact .esc 46 (ih fun d hd => h d (.tail _ hd))
theorem lazyE_shut {b : List Nat} (h : ∀ c ∈ b, okc c) : Shut (46 :: 42 :: 63 :: E b) := .sign _ (by decide) (by decide) (.sign _ (by decide) (by decide) (.sign _ (by decide) (by decide) (E_shut h)))
theorem runL_mem {a st : Int} {n : Nat} {p : Int} (h : p ∈ runL a st n) : ∃ i : Nat, i < n ∧ p = a + (i : Int) * st := by
  obtain ⟨i, hi, rfl⟩ := List.mem_map.mp h
  exact ⟨i, List.mem_range.mp hi, rfl⟩
theorem stepLit_len (nl : List Nat) (c : Nat) (ws : List Int) : (stepLit nl c ws).length ≤ ws.length := by
  unfold stepLit; rw [List.length_map]; exact List.length_filter_le _ _
theorem stepLit_mem {nl : List Nat} {c : Nat} {ws : List Int} (h : ∀ p ∈ ws, 0 ≤ p ∧ p ≤ (nl.length : Int)) : ∀ p ∈ stepLit nl c ws, 0 ≤ p ∧ p ≤ (nl.length : Int) := by
  intro p hp
  obtain ⟨q, hq, rfl⟩ := List.mem_map.mp hp
  obtain ⟨hq1, hq2⟩ := List.mem_filter.mp hq
  have h0 := h q hq1
  have : q.toNat < nl.length := (List.getElem?_eq_some_iff.mp (eq_of_beq hq2)).1
  omega
theorem stepLazy_mem {nl : List Nat} {ws : List Int} (h : ∀ p ∈ ws, 0 ≤ p ∧ p ≤ (nl.length : Int)) : ∀ p ∈ stepLazy nl ws, 0 ≤ p ∧ p ≤ (nl.length : Int) := by
  intro p hp
  obtain ⟨q, hq, hp⟩ := List.mem_flatMap.mp hp
  obtain ⟨i, hi, rfl⟩ := runL_mem hp
  have := h q hq
  omega
theorem stepGreedy_mem {nl : List Nat} {ws : List Int} (h : ∀ p ∈ ws, 0 ≤ p ∧ p ≤ (nl.length : Int)) : ∀ p ∈ stepGreedy nl ws, 0 ≤ p ∧ p ≤ (nl.length : Int) := by
  intro p hp
  obtain ⟨q, hq, hp⟩ := List.mem_flatMap.mp hp
  obtain ⟨i, hi, rfl⟩ := runL_mem hp
  have := h q hq
  omega
theorem flat_len1 {f : Int → List Int} {ws : List Int} {n : Nat} (h1 : ws.length ≤ 1) (h : ∀ p ∈ ws, (f p).length ≤ n) : (ws.flatMap f).length ≤ n := by
  cases ws with
  | nil => exact Nat.zero_le _
  | cons p r =>
    cases r with
    | nil => simpa using h p (.head _)
    | cons q r => simp at h1
theorem runB_mem {nl : List Nat} {b : List Nat} : ∀ {ws : List Int}, (∀ p ∈ ws, 0 ≤ p ∧ p ≤ (nl.length : Int)) → ∀ p ∈ runB nl b ws, 0 ≤ p ∧ p ≤ (nl.length : Int) := by
  induction b with
  | nil => intro ws h; exact h
  | cons c b ih => intro ws h; exact ih (ws := stepLit nl c ws) (stepLit_mem h)
theorem stepGroup_mem {nl : List Nat} {b : List Nat} {ws : List Int} (h : ∀ p ∈ ws, 0 ≤ p ∧ p ≤ (nl.length : Int)) : ∀ p ∈ step nl (.group b) ws, 0 ≤ p ∧ p ≤ (nl.length : Int) := by
  intro p hp
  obtain ⟨q, hq, hp⟩ := List.mem_flatMap.mp hp
  refine runB_mem (stepLazy_mem (ws := [q]) ?_) p (List.mem_of_mem_take hp)
  intro r hr; rw [List.mem_singleton.mp hr]; exact h q hq
theorem take1_len {f : Int → List Int} {ws : List Int} : (ws.flatMap fun p => (f p).take 1).length ≤ ws.length := by
  induction ws with
  | nil => exact Nat.le_refl _
  | cons p r ih =>
    rw [List.flatMap_cons, List.length_append, List.length_cons]
    have : ((f p).take 1).length ≤ 1 := List.length_take_le _ _
    omega

theorem range_small_down {a b : Int} (h1 : -1000000 ≤ a) (h2 : a ≤ 1000000) (h3 : -1000000 ≤ b) (h4 : b ≤ 1000000) : Builtin.Range.small a b (-1) = true := by
  have fit : ∀ i : Int, -3000000 ≤ i → i ≤ 3000000 → Builtin.Range.rangeFitsLong i = true := by
    intro i h1 h2
    simp only [Builtin.Range.rangeFitsLong, Bool.and_eq_true, decide_eq_true_eq]
    omega
  simp only [Builtin.Range.small, rangeSize_downNat, fit a (by omega) (by omega), fit b (by omega) (by omega), fit (-1) (by omega) (by omega), fit ((a - b).toNat : Int) (by omega) (by omega)]
  simp only [Bool.and_true, Bool.true_and]
  rw [Bool.or_eq_true]
  refine .inr ?_
  split
  · exact fit _ (by omega) (by omega)
  · exact fit _ (by omega) (by omega)
theorem store_cell {M : Model} {A : Around} {E : Value → Shared → Prop} {s : Shared} {h₀ : Heap} {L : Addr} {m : Str → Option Value} {env : Env} {x : Str} {c : Addr} {o : Obj} {rest : List (Addr × Obj)} {v₀ : Option Value} {v : Value} {Q : Unit → Shared → Prop}
    (F : Fr h₀ L s.heap m) (N : News h₀ L s.heap ((c, o) :: rest)) (hr : ∀ p ∈ rest, p.1 ≠ c) (hd : o.data = .cell v₀) (hk : env.scope.kind = .function) (hl : env.kindOf x = some .cell) (hc : env.cells.lookup x = some c)
    (h : ∀ h' o', Fr h₀ L h' m → News h₀ L h' ((c, o') :: rest) → o'.data = .cell (some v) → Q () { s with heap := h' }) : wpAny M A (storeName env x v) Q E s := by
  have hmem := N (c, o) (.head _)
  refine wpAny_storeName_cell hk hl hc ⟨o, hmem.1, hd⟩ fun h' hv hs => ?_
  obtain ⟨o', ho', hd'⟩ := hv
  refine h h' o' ⟨F.ns.sameBut hs (Ne.symm hmem.2.1), fun b ob e => (hs.2 b (fun q => ?_)).trans (F.keep b ob e), F.above⟩ (N.setAt (own := []) (fun _ h => nomatch h) hr hs ho') hd'
  rw [q, hmem.2.2] at e; cases e

theorem slice_item {nm : Str} {p : Int} (h0 : 0 ≤ p) (h1 : p ≤ (tl nm).length) (c : Nat) : (Txt.slice nm (some p) (some (p + 1)) == ⟨#[c]⟩) = ((tl nm)[p.toNat]? == some c) := by
  have e : tl (Txt.slice nm (some p) (some (p + 1))) = ((tl nm).drop p.toNat).take 1 := by
    rw [slice_mid_tl h0 h1 (by omega)]
    congr 1; omega
  have e2 : ((tl nm).drop p.toNat).take 1 = [c] ↔ (tl nm)[p.toNat]? = some c := by
    rw [List.take_one, List.head?_drop]
    cases (tl nm)[p.toNat]? <;> simp
  by_cases h : (tl nm)[p.toNat]? = some c
  · rw [h, beq_self_eq_true]
    have : Txt.slice nm (some p) (some (p + 1)) = ⟨#[c]⟩ := str_ext (by rw [e, e2.mpr h])
    rw [this, beq_self_eq_true]
  · rw [beq_eq_false_iff_ne.mpr h]
    exact beq_eq_false_iff_ne.mpr fun q => h (e2.mp (by rw [← e, q]))
theorem slice_second {x : Str} {pre r : List Nat} {a c : Nat} (h : tl x = pre ++ a :: c :: r) : Txt.slice x (some ((pre.length : Int) + 1)) (some ((pre.length : Int) + 1 + 1)) = ⟨#[c]⟩ := by
  apply str_ext
  rw [slice_mid_tl (by omega) (by rw [h, List.length_append, List.length_cons]; omega) (by omega), h]
  have e1 : ((pre.length : Int) + 1).toNat = pre.length + 1 := by omega
  have e2 : ((pre.length : Int) + 1 + 1 - ((pre.length : Int) + 1)).toNat = 1 := by omega
  rw [e1, e2, ← List.drop_drop, List.drop_left]
  rfl

theorem slice_keep {prog : Program} {w : World} {A : Around} {E : Value → Shared → Prop} {s : Shared} {value slice : PySem.Expr} {x : Str} {t : Tok} {i j : Int} {ui uj : Tok} {Q : Value → Shared → Prop}
    (hs : subscripted slice false (.str x t) (.ref s.heap.objs.size) = operate [.ref s.heap.objs.size, .str x t] (getItem (.str x t) (.ref s.heap.objs.size)))
    (ht : ∀ r, letTemporaryGo value (.str x t) r = pure ()) (hsz : x.length ≤ 1000000)
    (h : ∀ h' t' k, (∀ b o, s.heap.get? b = some o → h'.get? b = some o) → Q (.str (Txt.slice x (some i) (some j)) t') { s with heap := h', toks := k }) :
    wpAny (model prog w) A (subscriptTail value slice (.str x t) (.ref s.heap.objs.size)) Q E { s with heap := s.heap.push { cls := .type "slice", data := .fields #[.int i ui, .int j uj, .none] } } :=
  tail_of_ItemOn (SBH.sliceItem_ss (P := fun h => ∀ b o, s.heap.get? b = some o → h.get? b = some o) (fun h ob k b o e => Heap.get?_push_of_some _ (k b o e)) (fun _ _ e => e) h (by rw [sizeLine_eq]; omega)) hs ht

theorem runB_len (nl : List Nat) (b : List Nat) : ∀ ws, (runB nl b ws).length ≤ ws.length := by
  induction b with
  | nil => intro ws; exact Nat.le_refl _
  | cons c b ih => intro ws; exact Nat.le_trans (ih (stepLit nl c ws)) (stepLit_len nl c ws)
theorem inner_eq (nl : List Nat) (b : List Nat) (p : Int) : runT nl (.lazy :: b.map .lit) [p] = runB nl b (stepLazy nl [p]) := by
  rw [runT_cons, runT_lits]; rfl
theorem inner_len (nl : List Nat) (b : List Nat) (p : Int) : (runT nl (.lazy :: b.map .lit) [p]).length ≤ nl.length + 1 := by
  rw [inner_eq]
  refine Nat.le_trans (runB_len _ _ _) (flat_len1 (Nat.le_refl _) fun q _ => ?_)
  rw [runL_length]; omega

theorem ext_list {prog : Program} {w : World} {A : Around} {E : Value → Shared → Prop} {s : Shared} {h₀ : Heap} {L D b : Addr} {m : Str → Option Value} {its its2 : Array Value} {n n2 : Nat} {pre post : List (Addr × Obj)} {Q : Value → Shared → Prop}
    (F : Fr h₀ L s.heap m) (N : News h₀ L s.heap (pre ++ (D, W.listOf its n) :: post)) (a : ∀ p ∈ pre, p.1 ≠ D) (c : ∀ p ∈ post, p.1 ≠ D) (hb : s.heap.get? b = some (W.listOf its2 n2)) (hsz : its.size + its2.size ≤ 100000)
    (h : ∀ h' n', Fr h₀ L h' m → News h₀ L h' (pre ++ (D, W.listOf (its ++ its2) n') :: post) → Q .none { s with heap := h' }) : wpAny (model prog w) A (call (.builtin "list.extend") [.ref D, .ref b]) Q E s := by
  have z := N (D, W.listOf its n) (List.mem_append.mpr (.inr (.head _)))
  have hd : ¬(!its.isEmpty && Builtin.List.listTooLong (its.size + its2.size)) = true := by
    rw [Bool.and_eq_true, not_and]
    intro _
    simp only [Builtin.List.listTooLong, decide_eq_true_eq]
    rw [sizeLine_eq]
    omega
  refine call_meets PySem.F.slot_list_extend ⟨_, z.1, rfl⟩ PySem.F.entry_list_extend (PySem.F.args_list_extend_2 _ _) (PySem.AutoSeq1.list_extend_list_list_0 D its n b its2 n2 hd (by rw [sizeLine_eq]; omega) (by rw [sizeLine_eq]; omega)) ⟨z.1, hb, h _ _ (F.change (Heap.SameBut.update ..) z.2.1 z.2.2) (ki_turn _ N a c rfl rfl)⟩
end Mine
namespace Mine
open PySem.Builtin

local macro_rules | `(tactic| walk_at "my steps") => `(tactic| repeat' (first | (k_unfold; (try dsimp only)) | ((fail_if_success (with_reducible show wpAny _ _ (pyIter _) _ _ _)); (fail_if_success (with_reducible show Exists _)); (fail_if_success (with_reducible show wpAny _ _ (exec (Stmt.While _ _ _ _) _) _ _ _)); (fail_if_success (with_reducible show wpAny _ _ (exec (Stmt.For _ _ _ _ _) _) _ _ _)); (fail_if_success (with_reducible show wpAny _ _ (exec (Stmt.Assign _ (PySem.Expr.ListComp _ _ _ _) _) _) _ _ _)); (fail_if_success (with_reducible show wpAny _ _ (call (Value.ref _) _) _ _ _)); (first | walk1 | (dsimp only; walk1)); (try dsimp only))))

def wcs : List Str := [Str.ofString "ways", Str.ofString "end", Str.ofString "firsts", Str.ofString "place", Str.ofString "inner"]

theorem ne_of_new {h : Heap} {a : Addr} {o : Obj} (ho : h.get? a = some o) : h.objs.size + 1 ≠ a := by
  intro e
  have := Heap.lt_size ho
  rw [← e] at this
  exact absurd this (Nat.not_lt.mpr (Nat.le_succ _))

set_option maxHeartbeats 8000000 in
theorem ways_body (toks : List Tk) (dd : Nat) (hne : toks ≠ []) (hwf : wf toks) (hcnt : cntM toks ≤ 1) (REC : ∀ b, Tk.group b ∈ toks → WSpec (.lazy :: b.map .lit) dd) : WSpec toks (dd + 10) := by
  intro prog w mean mg mb A s x nm t u D vs ws Q E C hx hnm htl hD hvs hws1 hwsB hQ
  refine fillK ?_
  k_fill
  intro _ _
  refine' fn_callC C ?k1 ?k2 ?k3 ?k4 ?k5 ?_ ?k6 ?k7 ?k8
  case k1 => k_is
  case k2 => k_is
  case k3 => exact rfl
  case k4 => exact rfl
  case k5 => decide +kernel
  case k6 => exact rfl
  case k7 => exact rfl
  case k8 => exact rfl
  intro L h₁ tk cells hLs hF hN hY
  have X := C.K
  have T := C.T
  k_cells hY
  rename_i o3 o2 o1 d3 d2 d1
  replace hF : Fr s.heap L h₁ (fun y => if y = Str.ofString "ways" then some (.ref D) else none) := by
    refine Eq.mp (congrArg (Fr s.heap L h₁) ?_) hF
    kernel_rfl
  walk_at "my steps"
  rename Fr _ _ _ _ => hF1
  rename News _ _ _ _ => hN1
  rename Obj => oA
  rename oA.data = _ => dA
  clear d3
  refine While_inv2 (fun n m news => ∃ (o3 : Obj) (own : List (Addr × Obj)) (D' : Addr) (vs' : List Value) (ws' : List Int) (pre : List Nat) (rest : List Tk) (ti : Tok),
    (∀ p ∈ own, p.1 ≠ L + 1 + 1 + 1) ∧ m (Str.ofString "ways") = some (.ref D') ∧ (∀ y, y ∉ wcs → m y = none) ∧ news = (_, o3) :: (_, o2) :: (_, o1) :: own ∧ o3.data = .cell (some (.int pre.length ti)) ∧
    ((own = [] ∧ rest = toks ∧ s.heap.IsList D' vs'.toArray) ∨ ∃ c, own = [(D', W.listOf vs'.toArray c)]) ∧ IntsAre vs' ws' ∧ tl x = pre ++ rendL rest ∧ wf rest ∧ runT (tl nm) rest ws' = runT (tl nm) toks ws ∧
    (∀ p ∈ ws', 0 ≤ p ∧ p ≤ nm.length) ∧ (ws'.length ≤ 1 ∧ cntM rest ≤ 1 ∨ ws'.length ≤ nm.length + 1 ∧ cntM rest = 0) ∧ (∀ b, Tk.group b ∈ rest → Tk.group b ∈ toks) ∧ n = rest.length) hF1 hN1
    ⟨oA, [], D, vs, ws, [], toks, _, by simp, by simp, ?_, rfl, dA, .inl ⟨rfl, rfl, hD⟩, hvs, htl, hwf, rfl, hwsB, .inl ⟨hws1, hcnt⟩, fun _ h => h, rfl⟩ ?_
  · intro y hy
    have : y ≠ Str.ofString "ways" := fun e => hy (e ▸ .head _)
    simp [this]
  · rintro n m₁ news₁ h₂ tk₂ hF2 hN2 ⟨o3, own, D', vs', ws', pre, rest, ti, hoff, hmw, hmo, rfl, d3, hown, hvs', htl', hwf', hrun, hB', hlenw, hgr, rfl⟩
    have em : m₁ = overs wcs m₁ (fun _ => none) := overs_eq hmo
    rw [em] at hF2
    simp only [overs, wcs, hmw] at hF2
    clear em
    try dsimp only at d1 d2
    have e3 := fun p => slice_beq (p := p) htl' 3
    have e2 := fun p => slice_beq (p := p) htl' 2
    have hIL : ∀ h m a3 a2 a1 p3, Fr s.heap L h m → News s.heap L h ((a3, p3) :: (a2, o2) :: (a1, o1) :: own) → h.IsList D' vs'.toArray := by
      intro h m a3 a2 a1 p3 F N
      rcases hown with ⟨rfl, rfl, hl⟩ | ⟨c, rfl⟩
      · exact hl.at fun o e => F.keep _ _ e
      · exact News.isList N (.tail _ (.tail _ (.tail _ (.head _))))
    have hnl : (tl nm).length = nm.length := tl_length nm
    have hx1 := hnm
    have hvsK := Hid.mk hvs'
    walk_at "my steps"
    · rename (_ == Str.ofString "(?>") = true => hz
      rename Fr _ _ _ _ => hF3
      rename News _ _ _ _ => hN3
      obtain ⟨b, r, rfl, hb, er⟩ := leaf_group hwf' (by rw [← show tl (Str.ofString "(?>") = [40, 63, 62] by decide, ← e3]; exact hz)
      have hxl1 : x.length = pre.length + 7 + (Mine.E b).length + (rendL r).length := by rw [← tl_length, htl', er]; simp; omega
      refine close_spec (pre := pre ++ [40, 63, 62]) (b := 46 :: 42 :: 63 :: Mine.E b) (post := rendL r) (((C.deeper _).keep (Fr.keep hF3)).le (by omega)) (by omega) (by simp) (by rw [htl', er]; simp) (lazyE_shut hb) fun h7 tk7 tk7' st7 => ?_
      have hF7 := fr_keep hF3 st7
      have hN7 := news_keep hN3 st7
      clear hF3 hN3
      have hend : (((pre ++ [40, 63, 62]).length + (46 :: 42 :: 63 :: Mine.E b).length : Nat) : Int) = (pre.length : Int) + 6 + ((Mine.E b).length : Int) := by simp; omega
      rw [hend]
      try dsimp only
      walk_at "my steps"
      walk1
      walk1
      rename Fr _ _ _ _ => hF8
      rename News _ _ _ _ => hN8
      rename_i lF _ hlt8 h8
      have hIL8 := hIL _ _ _ _ _ _ hF8 (fun p hp => hN8 p (.tail _ hp))
      have lta : @LT.lt Nat _ D' h8.objs.size := by obtain ⟨o, ho, _⟩ := hIL8; exact Heap.lt_size ho
      refine wpAny_pyIter_list hIL8 ?_
      have hLI : L ≠ h8.objs.size := Nat.ne_of_lt hF8.ns.lt
      have hDF : D' ≠ lF := by
        rcases hown with ⟨rfl, _, hl⟩ | ⟨c, rfl⟩
        · rintro rfl
          obtain ⟨o, ho, _⟩ := hl
          have := (hN8 (D', _) (.head _)).2.2
          rw [ho] at this; cases this
        · exact Nat.ne_of_lt hlt8.2.2.2.1
      refine iter_anyJ (h₀ := s.heap) (fun i m news => (∀ y, y ∉ [Str.ofString "place", Str.ofString "inner"] → m y = (fun y => if y = Str.ofString "firsts" then some (Value.ref lF) else if y = Str.ofString "end" then some (Value.int ((pre.length : Int) + 6 + ((Mine.E b).length : Int)) tk7) else if y = Str.ofString "ways" then some (Value.ref D') else none) y) ∧
        ∃ (vsF : List Value) (c : Nat), news = (lF, W.listOf vsF.toArray c) :: (L + 1 + 1 + 1, o3) :: (L + 1 + 1, o2) :: (L + 1, o1) :: own ∧ IntsAre vsF ((ws'.take i).flatMap fun p => (runB (tl nm) b (stepLazy (tl nm) [p])).take 1)) (PySem.Walks.list (by exact C.hh) h8.objs.size D' (Nat.ne_of_lt lta) vs'.toArray) ?_ ?_ ?_ ?_ ?_ (hF8.push _) (fun p hp => ⟨Heap.get?_push_of_some _ (hN8 p hp).1, (hN8 p hp).2⟩) ?_ ?_ ?_
      · intro hm
        rcases List.mem_cons.mp hm with hm | hm
        · exact hLI hm
        · have hm : L = D' := List.mem_singleton.mp hm
          rcases hown with ⟨rfl, _, hl⟩ | ⟨c, rfl⟩
          · obtain ⟨o, ho, _⟩ := hl
            have := Heap.lt_size ho
            rw [← hm, hLs] at this
            exact absurd this (Nat.lt_irrefl _)
          · exact (hN8 (D', W.listOf vs'.toArray c) (by simp)).2.1 hm.symm
      · cases q : s.heap.get? h8.objs.size with
        | none => rfl
        | some o => exact absurd (Heap.lt_size (hF8.keep _ _ q)) (Nat.lt_irrefl _)
      · intro p hp hI
        exact absurd (Heap.lt_size (hN8 p hp).1) (hI ▸ Nat.lt_irrefl _)
      · exact ⟨⟨_, Heap.get?_push_size _ rfl, rfl, rfl⟩, hIL8.at fun o e => Heap.get?_push_of_some _ e⟩
      · rintro i h ⟨⟨o, ho, _⟩, _⟩
        exact Heap.lt_size ho
      · refine ⟨?_, [], 0, rfl, .nil⟩
        intro y hy
        simp only [List.mem_cons, List.not_mem_nil, or_false, not_or] at hy
        by_cases y1 : y = Str.ofString "firsts"
        · rw [if_pos y1]; simp only [y1, hy, if_true, if_false]
        · by_cases y2 : y = Str.ofString "end"
          · simp only [if_neg y1, if_pos y2]
          · simp only [if_neg y1, if_neg y2, hy.1, hy.2, if_false]
      · rintro i v m₁' news₁ h9 tk9 own9 hi hPv ⟨hm9, vsF, c9, rfl, hvF⟩ hoff9 hown9 hI9 hF9 hN9
        have hiK : i < vs'.length := by simpa using hi
        have em9 := overs_eq hm9
        rw [em9] at hF9
        simp only [overs] at hF9
        try dsimp only
        walk_at "my steps"
        rename Fr _ _ _ _ => hF10
        rename News _ _ _ _ => hN10
        rename_i lP h10 hlP
        replace hF10 : Fr s.heap L h10 _ := hF10
        replace hN10 : News s.heap L h10 _ := hN10
        obtain ⟨p, hpi⟩ : ∃ p, ws'[i]? = some p := by
          refine ⟨_, List.getElem?_eq_getElem ?_⟩
          rw [← hvsK.out.length]; exact hiK
        obtain ⟨tp, hvp⟩ := hvsK.out.get i p hpi
        have hvv : v = .int p tp := by
          have : vs'[i]? = some v := by simpa using hPv
          rw [hvp] at this; exact (Option.some.inj this).symm
        subst hvv
        have hpB := hB' p (List.mem_of_getElem? hpi)
        have hsl : tl (Txt.slice x (some ((pre.length : Int) + 3)) (some ((pre.length : Int) + 6 + ((Mine.E b).length : Int)))) = rendL (Tk.lazy :: b.map Tk.lit) := by
          rw [slice_mid_tl (by omega) (by rw [tl_length]; omega) (by omega), htl', er, rendL_cons, lits_rend]
          have e1 : ((pre.length : Int) + 3).toNat = pre.length + 3 := by omega
          have e2 : ((pre.length : Int) + 6 + ((Mine.E b).length : Int) - ((pre.length : Int) + 3)).toNat = 3 + (Mine.E b).length := by omega
          rw [e1, e2, ← List.drop_drop, List.drop_left]
          simp [Tk.rend, Nat.add_comm 3]
        refine REC b (hgr b (.head _)) (ws := [p]) (((C.deeper _).keep (Fr.keep hF10)).le (by omega)) (by omega) hnm hsl (News.isList hN10 (.head _)) (.cons _ _ .nil) (Nat.le_refl _) ?_ ?_
        · intro q hq; rw [List.mem_singleton.mp hq]; exact hpB
        intro h11 tk11 D11 vs11 c11 st11 hg11 hn11 hv11
        have hF11 := fr_keep hF10 st11
        have hN11 := news_keep hN10 st11
        have hN11' : News s.heap L h11 ((D11, W.listOf vs11.toArray c11) :: (lF, W.listOf vsF.toArray c9) :: (L + 1 + 1 + 1, o3) :: (L + 1 + 1, o2) :: (L + 1, o1) :: (own ++ own9)) := by
          intro q hq
          rcases List.mem_cons.mp hq with rfl | hq
          · refine ⟨hg11, ?_, ?_⟩
            · rintro rfl
              obtain ⟨o, _, _, ho, _⟩ := hF10.ns
              rw [show h10.get? D11 = none from hn11] at ho; cases ho
            · cases q2 : s.heap.get? D11 with
              | none => rfl
              | some o => have := hF10.keep _ _ q2; rw [show h10.get? D11 = none from hn11] at this; cases this
          · refine hN11 q ?_
            refine List.mem_cons_of_mem _ ?_
            simp only [List.mem_cons, List.mem_append] at hq
            simp only [List.mem_append, List.mem_cons]
            rcases hq with h | h | h | h | h | h
            · exact .inl (.inl h)
            · exact .inl (.inr (.inl h))
            · exact .inl (.inr (.inr (.inl h)))
            · exact .inl (.inr (.inr (.inr (.inl h))))
            · exact .inl (.inr (.inr (.inr (.inr h))))
            · exact .inr h
        have hD11F : D11 ≠ lF := by
          rintro rfl
          have := (hN10 (D11, W.listOf vsF.toArray c9) (by simp)).1
          rw [show h10.get? D11 = none from hn11] at this; cases this
        clear hF10 hN10 hN11
        try dsimp only
        walk_at "my steps"
        rename Fr _ _ _ _ => hF12
        rename News _ _ _ _ => hN12
        have hl11 : vs11.toArray.size ≤ 101 := by
          rw [List.size_toArray, hv11.length]
          have := inner_len (tl nm) b p
          omega
        refine slice_list (s := ⟨_, _, _, _, _⟩) hF12 hN12 (News.isList hN12 (.head _)) .none (.int _ _) (hsz := by rw [sizeLine_eq]; omega) ?_
        intro h13 hF13 hN13
        try dsimp only
        walk_at "my steps"
        have hI9F : lF ≠ h8.objs.size := hoff9 (lF, W.listOf vsF.toArray c9) (.head _)
        have hsz13 : (slicePick vs11.toArray none (some 1) none).size ≤ 101 := Nat.le_trans (slicePick_size_le _ _ _ _) hl11
        have hszF : vsF.length ≤ 101 := by
          rw [hvF.length]
          refine Nat.le_trans take1_len ?_
          rw [List.length_take]
          have := hlenw
          omega
        refine ext_list (pre := [_, _]) (D := lF) hF13 hN13 ?_ ?_ (hN13 _ (.head _)).1 (by rw [List.size_toArray]; omega) fun h14 n14 hF14 hN14 => ?_
        · intro q hq
          rcases List.mem_cons.mp hq with rfl | hq
          · exact ne_of_new (hN12 (lF, W.listOf vsF.toArray c9) (.tail _ (.head _))).1
          · rw [List.mem_singleton.mp hq]; exact hD11F
        · intro q hq
          simp only [List.mem_cons, List.mem_append] at hq
          have a8 := hlt8
          rcases hq with rfl | rfl | rfl | hq | hq
          · exact Nat.ne_of_lt a8.1
          · exact Nat.ne_of_lt a8.2.1
          · exact Nat.ne_of_lt a8.2.2.1
          · exact Nat.ne_of_lt (ktn_ltOf a8.2.2.2 q hq)
          · have := hown9 q hq
            simp only [List.mem_cons, List.not_mem_nil, or_false] at this
            rcases this with e | e
            · rw [e]; exact Ne.symm hI9F
            · rw [e]; exact hDF
        try dsimp only
        walk_at "my steps"
        refine LoopStepU.intro hF14 (news₂ := (lF, W.listOf (vsF ++ vs11.take 1).toArray n14) :: (L + 1 + 1 + 1, o3) :: (L + 1 + 1, o2) :: (L + 1, o1) :: own) (fun q hq => hN14 q ?_) ?_ ⟨?_, vsF ++ vs11.take 1, n14, rfl, ?_⟩
        · have e : vsF.toArray ++ slicePick vs11.toArray none (some 1) none = (vsF ++ vs11.take 1).toArray := by
            rw [show (some (1 : Int)) = some ((1 : Nat) : Int) from rfl, slicePick_upto']
            simp
          rw [e]
          simp only [List.mem_cons, List.mem_append] at hq
          simp only [List.mem_append, List.mem_cons]
          rcases hq with h | h | h | h | h | h
          · exact .inr (.inr (.inr (.inr (.inr (.inr h)))))
          · exact .inr (.inl h)
          · exact .inr (.inr (.inl h))
          · exact .inr (.inr (.inr (.inl h)))
          · exact .inr (.inr (.inr (.inr (.inl h))))
          · exact .inr (.inr (.inr (.inr (.inr (.inl h)))))
        · intro q hq hm
          rcases List.mem_cons.mp hq with rfl | hq
          · exact hoff9 (lF, W.listOf vsF.toArray c9) (.head _) (List.mem_singleton.mp hm)
          · exact hoff9 q (.tail _ hq) (List.mem_singleton.mp hm)
        · intro y hy
          simp only [List.mem_cons, List.not_mem_nil, or_false, not_or] at hy
          simp only [hy, if_false]
        · rw [flatMap_take_succ _ _ _ _ hpi]
          refine hvF.append ?_
          rw [← inner_eq]
          exact hv11.take 1
      · intro m9 news9 h15 tk15 ⟨hm9, vsF, c9, hnews9, hvF⟩ hoff9 hF15 hN15
        subst hnews9
        have em9 := overs_eq hm9
        rw [em9] at hF15
        simp only [overs] at hF15
        try dsimp only
        walk_at "my steps"
        rename Fr _ _ _ _ => hF16
        rename News _ _ _ _ => hN16
        have hlt9 := hlt8
        refine store_cell (o := o3) hF16 (rest := [(L + 1 + 1, o2), (L + 1, o1), (lF, W.listOf vsF.toArray c9)]) (fun p hp => hN16 p ?_) ?_ d3 rfl rfl rfl ?_
        · simp only [List.mem_cons, List.not_mem_nil, or_false] at hp ⊢
          rcases hp with rfl | rfl | rfl | rfl <;> simp
        · intro p hp
          simp only [List.mem_cons, List.not_mem_nil, or_false] at hp
          rcases hp with rfl | rfl | rfl
          · refine neN ?_; omega
          · refine neN ?_; omega
          · exact Ne.symm (Nat.ne_of_lt hlt9.1)
        · intro h6 o6 hF6 hN6 hd6
          try dsimp only
          walk_at "my steps"
          have e : (((pre ++ (40 :: 63 :: 62 :: (46 :: 42 :: 63 :: Mine.E b) ++ [41])).length : Nat) : Int) = (pre.length : Int) + 6 + ((Mine.E b).length : Int) + 1 := by simp; omega
          rw [← e] at hd6
          have htk : (ws'.take vs'.toArray.size) = ws' := by
            rw [List.size_toArray, hvsK.out.length, List.take_length]
          rw [htk] at hvF
          have hlen2 : (step (tl nm) (.group b) ws').length ≤ ws'.length := take1_len
          have hcc : cntM (Tk.group b :: r) = 0 + cntM r := rfl
          refine ⟨_, _, _, _, r.length, rfl, hF6, hN6, Nat.lt_succ_self _, o6, [(lF, W.listOf vsF.toArray c9)], lF, vsF, step (tl nm) (.group b) ws', pre ++ (40 :: 63 :: 62 :: (46 :: 42 :: 63 :: Mine.E b) ++ [41]), r, _, ?_, if_pos rfl, ?_, rfl, hd6, .inr ⟨_, rfl⟩, hvF, by rw [htl', er]; simp, wf_tail hwf', by rw [runT_cons] at hrun; exact hrun, ?_, ?_, fun b hb => hgr b (.tail _ hb), rfl⟩
          · intro p hp
            rw [List.mem_singleton.mp hp]
            exact Ne.symm (Nat.ne_of_lt hlt9.1)
          · intro y hy
            simp only [wcs, List.mem_cons, List.not_mem_nil, or_false, not_or] at hy
            simp only [hy, if_false]
          · rw [← hnl]; exact stepGroup_mem (by rw [hnl]; exact hB')
          · have hlw : (step (tl nm) (.group b) ws').length ≤ 1 ∧ cntM r ≤ 1 ∨ (step (tl nm) (.group b) ws').length ≤ nm.length + 1 ∧ cntM r = 0 := by omega
            exact hlw
    · rename (_ == Str.ofString ".*?") = true => hz
      skip
      rename Fr _ _ _ _ => hF3
      rename News _ _ _ _ => hN3
      obtain ⟨r, rfl, er⟩ := leaf_lazy hwf' (by rw [← show tl (Str.ofString ".*?") = [46, 42, 63] by decide, ← e3]; exact hz)
      have hc1 : ws'.length ≤ 1 ∧ cntM r = 0 := by
        have : cntM (Tk.lazy :: r) = 1 + cntM r := rfl
        omega
      have hfl : (ws'.flatMap fun p => runL (p) (1) ((tl nm).length + 1 - p.toNat)).length ≤ nm.length + 1 := flat_len1 hc1.1 fun p hp => by rw [runL_length]; omega
      refine' asg_two (h₀ := s.heap) C.hh ?q1 ?q2 ?q3 ?q4 ?q5 ?q6 ?q7 ?q8 ?q9 ?q10 ?q11 ?q12 ?_ ?q13
      case q1 => exact rfl
      case q2 => exact rfl
      case q3 => decide
      case q4 => exact rfl
      case q5 => decide +kernel
      case q6 => exact rfl
      case q7 => exact rfl
      case q8 => decide
      case q9 => decide +kernel
      case q10 => intro _ _; rfl
      case q11 => exact rfl
      case q12 => exact rfl
      case q13 => intro _; rfl
      walk_at "my steps"
      refine ⟨D', vs', ws', fun p => p, fun p => (nm.length : Int) + 1, fun p => (tl nm).length + 1 - p.toNat, 1, _, _, rfl, hIL _ _ _ _ _ _ hF3 hN3, hvs', hF3, hN3, ?_, ?_, ?_, ?_⟩
      · intro C3 p t3 s3 m3 E3 hp hn3 hx3 hk3
        walk_at "my steps"
        · rename IsRange _ _ _ _ _ _ _ _ => hR
          exact ⟨_, _, _, _, rfl, hR⟩
        · rename ∀ b o, Heap.get? _ b = some o → Heap.get? _ b = some o => hK
          exact ⟨_, _, rfl, hK⟩
      · intro p hp
        have hp2 := hB' p hp
        show Builtin.Range.small (p) ((nm.length : Int) + 1) (1) = true ∧ Builtin.Range.rangeSize (p) ((nm.length : Int) + 1) (1) = (((tl nm).length + 1 - p.toNat : Nat) : Int)
        exact ⟨range_small (by omega) (by omega) (by omega) (by omega), by rw [rangeSize_nat]; omega⟩
      · rw [sizeLine_eq]; exact Nat.le_trans hfl (by omega)
      · intro D4 h4 tk4 ys c4 hF4 hN4 hD4 hys
        replace hF4 : Fr s.heap L h4 _ := hF4
        replace hN4 : News s.heap L h4 _ := hN4
        try dsimp only
        walk_at "my steps"
        rename Fr _ _ _ _ => hF5
        rename News _ _ _ _ => hN5
        replace hF5 : Fr s.heap L _ _ := hF5
        replace hN5 : News s.heap L _ _ := hN5
        refine store_cell (o := o3) hF5 (rest := [(L + 1 + 1, o2), (L + 1, o1), (D4, W.listOf ys.toArray c4)]) (fun p hp => hN5 p ?_) ?_ d3 rfl rfl rfl ?_
        · simp only [List.mem_cons, List.not_mem_nil, or_false] at hp ⊢
          rcases hp with rfl | rfl | rfl | rfl <;> simp
        · intro p hp
          simp only [List.mem_cons, List.not_mem_nil, or_false] at hp
          rcases hp with rfl | rfl | rfl
          · refine neN ?_; omega
          · refine neN ?_; omega
          · exact Ne.symm (hD4 (L + 1 + 1 + 1, o3) (.head _))
        · intro h6 o6 hF6 hN6 hd6
          try dsimp only
          walk_at "my steps"
          have e : (((pre ++ [46, 42, 63]).length : Nat) : Int) = (pre.length : Int) + 3 := by simp
          rw [← e] at hd6
          refine ⟨_, _, _, _, r.length, rfl, hF6, hN6, Nat.lt_succ_self _, o6, [(D4, W.listOf ys.toArray c4)], D4, ys, _, pre ++ [46, 42, 63], r, _, ?_, if_pos rfl, ?_, rfl, hd6, .inr ⟨_, rfl⟩, hys, by rw [htl', er]; simp, wf_tail hwf', by rw [runT_cons] at hrun; exact hrun, ?_, .inr ⟨hfl, hc1.2⟩, fun b hb => hgr b (.tail _ hb), rfl⟩
          · intro p hp
            rw [List.mem_singleton.mp hp]
            exact Ne.symm (hD4 (L + 1 + 1 + 1, o3) (.head _))
          · intro y hy
            simp only [wcs, List.mem_cons, List.not_mem_nil, or_false, not_or] at hy
            simp only [hy, if_false]
          · rw [← hnl]; exact stepLazy_mem (by rw [hnl]; exact hB')
    · rename (_ == Str.ofString ".*") = true => hz
      rename (_ == Str.ofString ".*?") = false => hz3
      rename Fr _ _ _ _ => hF3
      rename News _ _ _ _ => hN3
      obtain ⟨r, rfl, er⟩ := leaf_greedy hwf' (by rw [← show tl (Str.ofString ".*?") = [46, 42, 63] by decide, ← e3]; exact hz3) (by rw [← show tl (Str.ofString ".*") = [46, 42] by decide, ← e2]; exact hz)
      have hc1 : ws'.length ≤ 1 ∧ cntM r = 0 := by
        have : cntM (Tk.greedy :: r) = 1 + cntM r := rfl
        omega
      have hfl : (ws'.flatMap fun p => runL (((tl nm).length : Int)) (-1) ((tl nm).length + 1 - p.toNat)).length ≤ nm.length + 1 := flat_len1 hc1.1 fun p hp => by rw [runL_length]; omega
      refine' asg_two (h₀ := s.heap) C.hh ?q1 ?q2 ?q3 ?q4 ?q5 ?q6 ?q7 ?q8 ?q9 ?q10 ?q11 ?q12 ?_ ?q13
      case q1 => exact rfl
      case q2 => exact rfl
      case q3 => decide
      case q4 => exact rfl
      case q5 => decide +kernel
      case q6 => exact rfl
      case q7 => exact rfl
      case q8 => decide
      case q9 => decide +kernel
      case q10 => intro _ _; rfl
      case q11 => exact rfl
      case q12 => exact rfl
      case q13 => intro _; rfl
      walk_at "my steps"
      refine ⟨D', vs', ws', fun p => ((tl nm).length : Int), fun p => p - 1, fun p => (tl nm).length + 1 - p.toNat, -1, _, _, rfl, hIL _ _ _ _ _ _ hF3 hN3, hvs', hF3, hN3, ?_, ?_, ?_, ?_⟩
      · intro C3 p t3 s3 m3 E3 hp hn3 hx3 hk3
        walk_at "my steps"
        · rename IsRange _ _ _ _ _ _ _ _ => hR
          exact ⟨_, _, _, _, rfl, hR⟩
        · rename ∀ b o, Heap.get? _ b = some o → Heap.get? _ b = some o => hK
          exact ⟨_, _, rfl, hK⟩
      · intro p hp
        have hp2 := hB' p hp
        show Builtin.Range.small (((tl nm).length : Int)) (p - 1) (-1) = true ∧ Builtin.Range.rangeSize (((tl nm).length : Int)) (p - 1) (-1) = (((tl nm).length + 1 - p.toNat : Nat) : Int)
        exact ⟨range_small_down (by omega) (by omega) (by omega) (by omega), by rw [rangeSize_downNat]; omega⟩
      · rw [sizeLine_eq]; exact Nat.le_trans hfl (by omega)
      · intro D4 h4 tk4 ys c4 hF4 hN4 hD4 hys
        replace hF4 : Fr s.heap L h4 _ := hF4
        replace hN4 : News s.heap L h4 _ := hN4
        try dsimp only
        walk_at "my steps"
        rename Fr _ _ _ _ => hF5
        rename News _ _ _ _ => hN5
        replace hF5 : Fr s.heap L _ _ := hF5
        replace hN5 : News s.heap L _ _ := hN5
        refine store_cell (o := o3) hF5 (rest := [(L + 1 + 1, o2), (L + 1, o1), (D4, W.listOf ys.toArray c4)]) (fun p hp => hN5 p ?_) ?_ d3 rfl rfl rfl ?_
        · simp only [List.mem_cons, List.not_mem_nil, or_false] at hp ⊢
          rcases hp with rfl | rfl | rfl | rfl <;> simp
        · intro p hp
          simp only [List.mem_cons, List.not_mem_nil, or_false] at hp
          rcases hp with rfl | rfl | rfl
          · refine neN ?_; omega
          · refine neN ?_; omega
          · exact Ne.symm (hD4 (L + 1 + 1 + 1, o3) (.head _))
        · intro h6 o6 hF6 hN6 hd6
          try dsimp only
          walk_at "my steps"
          have e : (((pre ++ [46, 42]).length : Nat) : Int) = (pre.length : Int) + 2 := by simp
          rw [← e] at hd6
          refine ⟨_, _, _, _, r.length, rfl, hF6, hN6, Nat.lt_succ_self _, o6, [(D4, W.listOf ys.toArray c4)], D4, ys, _, pre ++ [46, 42], r, _, ?_, if_pos rfl, ?_, rfl, hd6, .inr ⟨_, rfl⟩, hys, by rw [htl', er]; simp, wf_tail hwf', by rw [runT_cons] at hrun; exact hrun, ?_, .inr ⟨hfl, hc1.2⟩, fun b hb => hgr b (.tail _ hb), rfl⟩
          · intro p hp
            rw [List.mem_singleton.mp hp]
            exact Ne.symm (hD4 (L + 1 + 1 + 1, o3) (.head _))
          · intro y hy
            simp only [wcs, List.mem_cons, List.not_mem_nil, or_false, not_or] at hy
            simp only [hy, if_false]
          · rw [← hnl]; exact stepGreedy_mem (by rw [hnl]; exact hB')
    · rename (_ == Str.ofString "\\") = true => hbs
      rename (_ == Str.ofString ".*?") = false => hz3
      rename (_ == Str.ofString "(?>") = false => hz1
      rename (_ == Str.ofString ".*") = false => hz2
      replace hz1 : ((rendL rest).take 3 == [40, 63, 62]) = false := by rw [← show tl (Str.ofString "(?>") = [40, 63, 62] by decide, ← e3]; exact hz1
      replace hz3 : ((rendL rest).take 3 == [46, 42, 63]) = false := by rw [← show tl (Str.ofString ".*?") = [46, 42, 63] by decide, ← e3]; exact hz3
      replace hz2 : ((rendL rest).take 2 == [46, 42]) = false := by rw [← show tl (Str.ofString ".*") = [46, 42] by decide, ← e2]; exact hz2
      have hrne : rest ≠ [] := by
        rintro rfl
        have : x.length = pre.length := by rw [← tl_length, htl']; simp [rendL]
        omega
      rename Fr _ _ _ _ => hF3
      rename News _ _ _ _ => hN3
      rcases leaf_lit hwf' hrne hz1 hz3 hz2 with ⟨c, r, rfl, hc, er⟩ | ⟨r, rfl, er⟩
      · exfalso
        rw [item_tl (by omega) (by rw [htl', er]; simp : (tl x)[((pre.length : Int)).toNat]? = some c), sg_bs, one_eq] at hbs
        have := eq_of_beq hbs
        subst this
        revert hc; decide
      · have hxl4 : x.length = pre.length + (rendL r).length + 2 := by rw [← tl_length, htl', er]; simp; omega
        have hsec := slice_second (r := rendL r) (by rw [htl', er] : tl x = pre ++ 92 :: 46 :: rendL r)
        have hit := item_tl (x := x) (i := (pre.length : Int) + 1) (c := 46) (by omega) (by rw [htl', er, show ((pre.length : Int) + 1).toNat = pre.length + 1 by omega]; simp)
        refine store_cell (o := o3) hF3 hN3 ?_ d3 rfl rfl rfl fun h7 o7 hF7 hN7 hd7 => ?_
        · intro p hp
          rcases List.mem_cons.mp hp with rfl | hp
          · refine neN ?_; omega
          · rcases List.mem_cons.mp hp with rfl | hp
            · refine neN ?_; omega
            · exact hoff p hp
        try dsimp only
        clear hF3 hN3
        walk_at "my steps"
        · rename Fr _ _ _ _ => hF3
          rename News _ _ _ _ => hN3
          refine' asg_ints (h₀ := s.heap) (fun p => (tl nm)[p.toNat]? == some 46) (fun p => p + 1) C.hh ?q1 ?q2 ?q3 ?q4 ?q5 ?q6 ?q7 ?q8 ?_ ?q9
          case q1 => exact rfl
          case q2 => exact rfl
          case q3 => decide
          case q4 => exact rfl
          case q5 => decide +kernel
          case q6 => exact rfl
          case q7 => exact rfl
          case q8 => exact rfl
          case q9 => intro _; rfl
          walk_at "my steps"
          refine ⟨D', vs', ws', _, _, rfl, hIL _ _ _ _ _ _ hF3 hN3, hvs', by omega, hF3, hN3, ?_, ?_, ?_⟩
          · intro C3 s3 m3 E3 p t3 hp hn3 hx3 hk3
            have hp2 := hB' p hp
            walk_at "my steps"
            refine slice_keep (s := ⟨s3.heap, s3.gens, s3.drawn, s3.toks + 1 + 1, s3.os⟩) (x := nm) (t := u) (i := p) (j := p + 1) (ui := t3) (uj := s3.toks + 1) ?_ ?_ ?_ ?_
            · with_unfolding_all rfl
            · intro _; with_unfolding_all rfl
            · omega
            intro h8 t8 k8 hk8
            try dsimp only at hk8
            have hF8 := fr_keep hF3 fun b o e => hk8 b o (hk3 b o e)
            have hN8 := news_keep hN3 fun b o e => hk8 b o (hk3 b o e)
            try dsimp only
            walk_at "my steps"
            · rw [hit]; exact slice_item hp2.1 (by rw [hnl]; exact hp2.2) 46
            · exact ⟨_, _, rfl, hk8⟩
          · intro C3 s3 m3 E3 p t3 hp hpz hn3 hx3 hk3
            walk_at "my steps"
            · exact ⟨_, rfl⟩
            · exact ⟨_, _, rfl, fun _ _ e => e⟩
          · intro D4 h4 tk4 ys c4 hF4 hN4 hD4 hys
            replace hF4 : Fr s.heap L h4 _ := hF4
            replace hN4 : News s.heap L h4 _ := hN4
            try dsimp only
            walk_at "my steps"
            rename Fr _ _ _ _ => hF5
            rename News _ _ _ _ => hN5
            replace hF5 : Fr s.heap L _ _ := hF5
            replace hN5 : News s.heap L _ _ := hN5
            refine store_cell (o := o7) hF5 (rest := [(L + 1 + 1, o2), (L + 1, o1), (D4, W.listOf ys.toArray c4)]) (fun p hp => hN5 p ?_) ?_ hd7 rfl rfl rfl ?_
            · simp only [List.mem_cons, List.not_mem_nil, or_false] at hp ⊢
              rcases hp with rfl | rfl | rfl | rfl <;> simp
            · intro p hp
              simp only [List.mem_cons, List.not_mem_nil, or_false] at hp
              rcases hp with rfl | rfl | rfl
              · refine neN ?_; omega
              · refine neN ?_; omega
              · exact Ne.symm (hD4 (L + 1 + 1 + 1, o7) (.head _))
            · intro h6 o6 hF6 hN6 hd6
              try dsimp only
              walk_at "my steps"
              have e : (((pre ++ [92, 46]).length : Nat) : Int) = (pre.length : Int) + 2 := by simp
              rw [show (pre.length : Int) + 1 + 1 = (pre.length : Int) + 2 by omega] at hd6
              rw [← e] at hd6
              refine ⟨_, _, _, _, r.length, rfl, hF6, hN6, Nat.lt_succ_self _, o6, [(D4, W.listOf ys.toArray c4)], D4, ys, _, pre ++ [92, 46], r, _, ?_, if_pos rfl, ?_, rfl, hd6, .inr ⟨_, rfl⟩, hys, by rw [htl', er]; simp, wf_tail hwf', by rw [runT_cons] at hrun; exact hrun, ?_, ?_, fun b hb => hgr b (.tail _ hb), rfl⟩
              · intro p hp
                rw [List.mem_singleton.mp hp]
                exact Ne.symm (hD4 (L + 1 + 1 + 1, o7) (.head _))
              · intro y hy
                simp only [wcs, List.mem_cons, List.not_mem_nil, or_false, not_or] at hy
                simp only [hy, if_false]
              · rw [← hnl]; exact stepLit_mem (by rw [hnl]; exact hB')
              · have hll := stepLit_len (tl nm) 46 ws'
                have hcc : cntM (Tk.lit 46 :: r) = 0 + cntM r := rfl
                have hcc2 : (stepLit (tl nm) 46 ws').length ≤ 1 ∧ cntM r ≤ 1 ∨ (stepLit (tl nm) 46 ws').length ≤ nm.length + 1 ∧ cntM r = 0 := by omega
                exact hcc2
        · exfalso
          rename List.isEmpty _ = false => hcon
          rw [hsec] at hcon
          revert hcon
          decide +kernel
    · rename (_ == Str.ofString "\\") = false => hbs
      rename (_ == Str.ofString ".*?") = false => hz3
      rename (_ == Str.ofString "(?>") = false => hz1
      rename (_ == Str.ofString ".*") = false => hz2
      replace hz1 : ((rendL rest).take 3 == [40, 63, 62]) = false := by rw [← show tl (Str.ofString "(?>") = [40, 63, 62] by decide, ← e3]; exact hz1
      replace hz3 : ((rendL rest).take 3 == [46, 42, 63]) = false := by rw [← show tl (Str.ofString ".*?") = [46, 42, 63] by decide, ← e3]; exact hz3
      replace hz2 : ((rendL rest).take 2 == [46, 42]) = false := by rw [← show tl (Str.ofString ".*") = [46, 42] by decide, ← e2]; exact hz2
      have hrne : rest ≠ [] := by
        rintro rfl
        have : x.length = pre.length := by rw [← tl_length, htl']; simp [rendL]
        omega
      rename Fr _ _ _ _ => hF3
      rename News _ _ _ _ => hN3
      rcases leaf_lit hwf' hrne hz1 hz3 hz2 with ⟨c, r, rfl, hc, er⟩ | ⟨r, rfl, er⟩
      · have hit := item_tl (x := x) (i := (pre.length : Int)) (c := c) (by omega) (by rw [htl', er]; simp)
        refine' asg_ints (h₀ := s.heap) (fun p => (tl nm)[p.toNat]? == some c) (fun p => p + 1) C.hh ?q1 ?q2 ?q3 ?q4 ?q5 ?q6 ?q7 ?q8 ?_ ?q9
        case q1 => exact rfl
        case q2 => exact rfl
        case q3 => decide
        case q4 => exact rfl
        case q5 => decide +kernel
        case q6 => exact rfl
        case q7 => exact rfl
        case q8 => exact rfl
        case q9 => intro _; rfl
        walk_at "my steps"
        refine ⟨D', vs', ws', _, _, rfl, hIL _ _ _ _ _ _ hF3 hN3, hvs', by omega, hF3, hN3, ?_, ?_, ?_⟩
        · intro C3 s3 m3 E3 p t3 hp hn3 hx3 hk3
          have hp2 := hB' p hp
          walk_at "my steps"
          refine slice_keep (s := ⟨s3.heap, s3.gens, s3.drawn, s3.toks + 1 + 1, s3.os⟩) (x := nm) (t := u) (i := p) (j := p + 1) (ui := t3) (uj := s3.toks + 1) ?_ ?_ ?_ ?_
          · with_unfolding_all rfl
          · intro _; with_unfolding_all rfl
          · omega
          intro h8 t8 k8 hk8
          try dsimp only at hk8
          have hF8 := fr_keep hF3 fun b o e => hk8 b o (hk3 b o e)
          have hN8 := news_keep hN3 fun b o e => hk8 b o (hk3 b o e)
          try dsimp only
          walk_at "my steps"
          · rw [hit]; exact slice_item hp2.1 (by rw [hnl]; exact hp2.2) c
          · exact ⟨_, _, rfl, hk8⟩
        · intro C3 s3 m3 E3 p t3 hp hpz hn3 hx3 hk3
          walk_at "my steps"
          · exact ⟨_, rfl⟩
          · exact ⟨_, _, rfl, fun _ _ e => e⟩
        · intro D4 h4 tk4 ys c4 hF4 hN4 hD4 hys
          replace hF4 : Fr s.heap L h4 _ := hF4
          replace hN4 : News s.heap L h4 _ := hN4
          try dsimp only
          walk_at "my steps"
          rename Fr _ _ _ _ => hF5
          rename News _ _ _ _ => hN5
          replace hF5 : Fr s.heap L _ _ := hF5
          replace hN5 : News s.heap L _ _ := hN5
          refine store_cell (o := o3) hF5 (rest := [(L + 1 + 1, o2), (L + 1, o1), (D4, W.listOf ys.toArray c4)]) (fun p hp => hN5 p ?_) ?_ d3 rfl rfl rfl ?_
          · simp only [List.mem_cons, List.not_mem_nil, or_false] at hp ⊢
            rcases hp with rfl | rfl | rfl | rfl <;> simp
          · intro p hp
            simp only [List.mem_cons, List.not_mem_nil, or_false] at hp
            rcases hp with rfl | rfl | rfl
            · refine neN ?_; omega
            · refine neN ?_; omega
            · exact Ne.symm (hD4 (L + 1 + 1 + 1, o3) (.head _))
          · intro h6 o6 hF6 hN6 hd6
            try dsimp only
            walk_at "my steps"
            have e : (((pre ++ [c]).length : Nat) : Int) = (pre.length : Int) + 1 := by simp
            skip
            rw [← e] at hd6
            refine ⟨_, _, _, _, r.length, rfl, hF6, hN6, Nat.lt_succ_self _, o6, [(D4, W.listOf ys.toArray c4)], D4, ys, _, pre ++ [c], r, _, ?_, if_pos rfl, ?_, rfl, hd6, .inr ⟨_, rfl⟩, hys, by rw [htl', er]; simp, wf_tail hwf', by rw [runT_cons] at hrun; exact hrun, ?_, ?_, fun b hb => hgr b (.tail _ hb), rfl⟩
            · intro p hp
              rw [List.mem_singleton.mp hp]
              exact Ne.symm (hD4 (L + 1 + 1 + 1, o3) (.head _))
            · intro y hy
              simp only [wcs, List.mem_cons, List.not_mem_nil, or_false, not_or] at hy
              simp only [hy, if_false]
            · rw [← hnl]; exact stepLit_mem (by rw [hnl]; exact hB')
            · have hll := stepLit_len (tl nm) c ws'
              have hcc : cntM (Tk.lit c :: r) = 0 + cntM r := rfl
              have hcc2 : (stepLit (tl nm) c ws').length ≤ 1 ∧ cntM r ≤ 1 ∨ (stepLit (tl nm) c ws').length ≤ nm.length + 1 ∧ cntM r = 0 := by omega
              exact hcc2
      · exfalso
        rw [item_tl (by omega) (by rw [htl', er]; simp : (tl x)[((pre.length : Int)).toNat]? = some 92), sg_bs, one_eq] at hbs
        cases hbs
    · exfalso
      rename (_ == Str.ofString ".*?") = false => hz3
      rename (_ == Str.ofString "(?>") = false => hz1
      rename (_ == Str.ofString ".*") = false => hz2
      replace hz1 : ((rendL rest).take 3 == [40, 63, 62]) = false := by rw [← show tl (Str.ofString "(?>") = [40, 63, 62] by decide, ← e3]; exact hz1
      replace hz3 : ((rendL rest).take 3 == [46, 42, 63]) = false := by rw [← show tl (Str.ofString ".*?") = [46, 42, 63] by decide, ← e3]; exact hz3
      replace hz2 : ((rendL rest).take 2 == [46, 42]) = false := by rw [← show tl (Str.ofString ".*") = [46, 42] by decide, ← e2]; exact hz2
      have hrne : rest ≠ [] := by
        rintro rfl
        have : x.length = pre.length := by rw [← tl_length, htl']; simp [rendL]
        omega
      rename List.isEmpty _ = false => hcon
      rcases leaf_lit hwf' hrne hz1 hz3 hz2 with ⟨c, r, rfl, hc, er⟩ | ⟨r, rfl, er⟩
      · rw [item_tl (by omega) (by rw [htl', er]; simp : (tl x)[((pre.length : Int)).toNat]? = some c)] at hcon
        simp only [List.mem_cons, List.not_mem_nil, or_false] at hc
        rcases hc with rfl | rfl | rfl | rfl
        all_goals (revert hcon; decide +kernel)
      · rw [item_tl (by omega) (by rw [htl', er]; simp : (tl x)[((pre.length : Int)).toNat]? = some 92)] at hcon
        revert hcon; decide +kernel
    · have hr0 : rest = [] := by
        apply Classical.byContradiction
        intro hrne
        have h1 := rend_pos hwf' hrne
        have h2 : x.length = pre.length + (rendL rest).length := by rw [← tl_length, htl', List.length_append]
        omega
      subst hr0
      rcases hown with ⟨_, h2, _⟩ | ⟨c, rfl⟩
      · exact absurd h2.symm hne
      · have hz := hN2 (D', W.listOf vs'.toArray c) (.tail _ (.tail _ (.tail _ (.head _))))
        exact hQ _ _ D' vs' c (fun b o e => hF2.keep b o e) hz.1 hz.2.2 (by rw [← hrun]; exact hvs')

theorem inner_spec (b : List Nat) (hb : ∀ c ∈ b, okc c) : WSpec (.lazy :: b.map .lit) 10 :=
  ways_body (.lazy :: b.map .lit) 0 (by simp) (lits_wf hb) (by show 1 + cntM (b.map .lit) ≤ 1; rw [lits_cnt]; decide) fun b' h => by
    rcases List.mem_cons.mp h with h | h
    · cases h
    · obtain ⟨c, _, h⟩ := List.mem_map.mp h; cases h
theorem wf_group : ∀ {toks : List Tk} (_ : wf toks) {b : List Nat} (_ : Tk.group b ∈ toks), ∀ c ∈ b, okc c
  | k :: r, h, b, hm => by
    rcases List.mem_cons.mp hm with rfl | hm
    · exact h.1
    · exact wf_group (wf_tail h) hm
theorem ways_spec (toks : List Tk) (hne : toks ≠ []) (hwf : wf toks) (hcnt : cntM toks ≤ 1) : WSpec toks 20 :=
  ways_body toks 10 hne hwf hcnt fun b hb => inner_spec b (wf_group hwf hb)
end Mine
namespace Mine

def plStep (nl : List Nat) (ws : List Int) (c : Nat) : List Int := if c = 42 then stepLazy nl (ws.take 1) else stepLit nl c ws
def plRun (nl : List Nat) (l : List Nat) (ws : List Int) : List Int := l.foldl (plStep nl) ws
def Asc (ws : List Int) : Prop := ws.Pairwise (· < ·)
theorem asc_stepLit {nl : List Nat} {c : Nat} {ws : List Int} (h : Asc ws) : Asc (stepLit nl c ws) := by
  unfold Asc stepLit
  rw [List.pairwise_map]
  exact List.Pairwise.imp (fun h => by omega) (List.Pairwise.filter _ h)
theorem asc_runL (p : Int) (n : Nat) : Asc (runL p 1 n) := by
  unfold Asc runL
  rw [List.pairwise_map]
  refine List.Pairwise.imp (fun {a b} h => ?_) (List.pairwise_lt_range (n := n))
  omega
theorem take1_cases (ws : List Int) : ws.take 1 = [] ∨ ∃ p, ws.take 1 = [p] ∧ ws.head? = some p := by
  cases ws with
  | nil => exact .inl rfl
  | cons p r => exact .inr ⟨p, rfl, rfl⟩
theorem stepLazy_nil (nl : List Nat) : stepLazy nl [] = [] := rfl
theorem stepLazy_one (nl : List Nat) (p : Int) : stepLazy nl [p] = runL p 1 (nl.length + 1 - p.toNat) := by simp [stepLazy]
theorem asc_lazy1 {nl : List Nat} (ws : List Int) : Asc (stepLazy nl (ws.take 1)) := by
  rcases take1_cases ws with h | ⟨p, h, _⟩
  · rw [h]; exact List.Pairwise.nil
  · rw [h, stepLazy_one]; exact asc_runL _ _
theorem asc_plStep {nl : List Nat} {c : Nat} {ws : List Int} (h : Asc ws) : Asc (plStep nl ws c) := by
  unfold plStep
  split
  · exact asc_lazy1 _
  · exact asc_stepLit h
theorem asc_plRun {nl : List Nat} : ∀ (l : List Nat) {ws : List Int}, Asc ws → Asc (plRun nl l ws)
  | [], _, h => h
  | c :: l, _, h => asc_plRun l (asc_plStep h)
theorem mem_take1 {ws : List Int} {P : Int → Prop} (h : ∀ p ∈ ws, P p) : ∀ p ∈ ws.take 1, P p := fun p hp => h p (List.mem_of_mem_take hp)
theorem plStep_mem {nl : List Nat} {c : Nat} {ws : List Int} (h : ∀ p ∈ ws, 0 ≤ p ∧ p ≤ (nl.length : Int)) : ∀ p ∈ plStep nl ws c, 0 ≤ p ∧ p ≤ (nl.length : Int) := by
  unfold plStep
  split
  · exact stepLazy_mem (mem_take1 h)
  · exact stepLit_mem h
theorem plRun_mem {nl : List Nat} : ∀ (l : List Nat) {ws : List Int}, (∀ p ∈ ws, 0 ≤ p ∧ p ≤ (nl.length : Int)) → ∀ p ∈ plRun nl l ws, 0 ≤ p ∧ p ≤ (nl.length : Int)
  | [], _, h => h
  | c :: l, _, h => plRun_mem l (plStep_mem h)
theorem plStep_len {nl : List Nat} {c : Nat} {ws : List Int} (h : ws.length ≤ nl.length + 1) : (plStep nl ws c).length ≤ nl.length + 1 := by
  unfold plStep
  split
  · rcases take1_cases ws with h | ⟨p, h, _⟩
    · rw [h]; exact Nat.zero_le _
    · rw [h, stepLazy_one, runL_length]; omega
  · exact Nat.le_trans (stepLit_len _ _ _) h
theorem plRun_len {nl : List Nat} : ∀ (l : List Nat) {ws : List Int}, ws.length ≤ nl.length + 1 → (plRun nl l ws).length ≤ nl.length + 1
  | [], _, h => h
  | c :: l, _, h => plRun_len l (plStep_len h)
theorem plRun_snoc (nl l : List Nat) (c : Nat) (ws : List Int) : plRun nl (l ++ [c]) ws = plStep nl (plRun nl l ws) c := by
  simp [plRun, List.foldl_append]

-- the pieces
def PS (nl : List Nat) : List (List Nat) → List Int → List Int
  | [], ws => ws
  | q :: r, ws => PS nl r (runB nl q (stepLazy nl (ws.take 1)))
def PR (nl : List Nat) : List (List Nat) → List Int → List Int
  | [], ws => ws
  | q :: r, ws => PS nl r (runB nl q ws)
theorem plRun_spl (nl : List Nat) : ∀ (l : List Nat) (ws : List Int), plRun nl l ws = PR nl (spl l) ws
  | [], ws => rfl
  | c :: r, ws => by
    have ih := plRun_spl nl r (plStep nl ws c)
    show plRun nl r (plStep nl ws c) = _
    rw [ih, spl_cons]
    by_cases hc : c = 42
    · rw [if_pos hc]
      cases h : spl r with
      | nil => exact absurd h (spl_ne r)
      | cons q qs =>
        show PS nl qs (runB nl q (plStep nl ws c)) = PS nl (q :: qs) (runB nl [] ws)
        rw [plStep, if_pos hc]; rfl
    · rw [if_neg hc]
      cases h : spl r with
      | nil => exact absurd h (spl_ne r)
      | cons q qs =>
        show PS nl qs (runB nl q (plStep nl ws c)) = PS nl qs (runB nl (c :: q) ws)
        rw [plStep, if_neg hc]; rfl

def tailT : List (List Nat) → List Tk
  | [] => []
  | [q] => .greedy :: q.map .lit
  | q :: r :: rs => .group q :: tailT (r :: rs)
def toksP : List (List Nat) → List Tk
  | [] => []
  | p :: ps => p.map .lit ++ tailT ps
theorem rendL_append (a b : List Tk) : rendL (a ++ b) = rendL a ++ rendL b := by simp [rendL]
theorem tailT_rend : ∀ ps : List (List Nat), rendL (tailT ps) = tailP ps
  | [] => rfl
  | [q] => by rw [tailT, rendL_cons, lits_rend, tailP]; rfl
  | q :: r :: rs => by rw [tailT, rendL_cons, tailT_rend (r :: rs), tailP]; rfl
theorem toksP_rend {p : List Nat} {ps : List (List Nat)} (h : ps ≠ []) : rendL (toksP (p :: ps)) = tpP (p :: ps) := by
  rw [toksP, rendL_append, lits_rend, tailT_rend, tpP_cons h]
theorem E_first {l : List Nat} : (E l)[0]? ≠ some 63 := fun h => E_head h rfl
theorem tailT_wf : ∀ {ps : List (List Nat)} (_ : ∀ p ∈ ps, ∀ c ∈ p, okc c), wf (tailT ps)
  | [], _ => trivial
  | [q], h => ⟨by rw [lits_rend]; exact E_first, lits_wf (h q (.head _))⟩
  | q :: r :: rs, h => ⟨h q (.head _), tailT_wf (ps := r :: rs) fun p hp => h p (.tail _ hp)⟩
theorem wf_lits_append : ∀ {b : List Nat} {r : List Tk} (_ : ∀ c ∈ b, okc c) (_ : wf r), wf (b.map .lit ++ r)
  | [], _, _, h => h
  | c :: b, _, hb, h => ⟨hb c (.head _), wf_lits_append (fun d hd => hb d (.tail _ hd)) h⟩
theorem toksP_wf {p : List Nat} {ps : List (List Nat)} (h : ∀ q ∈ p :: ps, ∀ c ∈ q, okc c) : wf (toksP (p :: ps)) :=
  wf_lits_append (h p (.head _)) (tailT_wf fun q hq => h q (.tail _ hq))
theorem cntM_append (a b : List Tk) : cntM (a ++ b) = cntM a + cntM b := by simp [cntM]
theorem tailT_cnt : ∀ ps : List (List Nat), cntM (tailT ps) ≤ 1
  | [] => by decide
  | [q] => by show 1 + cntM (q.map .lit) ≤ 1; rw [lits_cnt]; decide
  | q :: r :: rs => by
    have := tailT_cnt (r :: rs)
    show 0 + cntM (tailT (r :: rs)) ≤ 1
    omega
theorem toksP_cnt (p : List Nat) (ps : List (List Nat)) : cntM (toksP (p :: ps)) ≤ 1 := by
  rw [toksP, cntM_append, lits_cnt, Nat.zero_add]; exact tailT_cnt ps
theorem stepLit_rev (nl : List Nat) (c : Nat) (ws : List Int) : stepLit nl c ws.reverse = (stepLit nl c ws).reverse := by
  simp [stepLit, List.filter_reverse]
theorem runB_rev (nl : List Nat) : ∀ (b : List Nat) (ws : List Int), runB nl b ws.reverse = (runB nl b ws).reverse
  | [], _ => rfl
  | c :: b, ws => by
    show runB nl b (stepLit nl c ws.reverse) = (runB nl b (stepLit nl c ws)).reverse
    rw [stepLit_rev, runB_rev nl b]
theorem runB_nil (nl : List Nat) : ∀ b : List Nat, runB nl b [] = []
  | [] => rfl
  | c :: b => runB_nil nl b
theorem runL_rev (a : Int) (n : Nat) : runL (a + n) (-1) (n + 1) = (runL a 1 (n + 1)).reverse := by
  apply List.ext_getElem
  · simp [runL]
  · intro i h1 h2
    simp only [runL, List.getElem_map, List.getElem_range, List.getElem_reverse, List.length_map, List.length_range]
    have : i < n + 1 := by simpa [runL] using h1
    omega
theorem greedy_rev {nl : List Nat} {ws : List Int} (h : ∀ p ∈ ws, 0 ≤ p ∧ p ≤ (nl.length : Int)) : stepGreedy nl (ws.take 1) = (stepLazy nl (ws.take 1)).reverse := by
  rcases take1_cases ws with h1 | ⟨p, h1, h2⟩
  · rw [h1]; rfl
  · have hp := h p (by cases ws with | nil => cases h2 | cons q r => cases h2; exact .head _)
    rw [h1, stepLazy_one]
    have : stepGreedy nl [p] = runL nl.length (-1) (nl.length + 1 - p.toNat) := by simp [stepGreedy]
    rw [this]
    have e1 : nl.length + 1 - p.toNat = (nl.length - p.toNat) + 1 := by omega
    have e2 : (nl.length : Int) = p + ((nl.length - p.toNat : Nat) : Int) := by omega
    rw [e1]
    conv => lhs; rw [e2]
    exact runL_rev _ _
theorem group_take (nl q : List Nat) (ws : List Int) : step nl (.group q) (ws.take 1) = (runB nl q (stepLazy nl (ws.take 1))).take 1 := by
  rcases take1_cases ws with h1 | ⟨p, h1, h2⟩
  · rw [h1, stepLazy_nil, runB_nil]; rfl
  · rw [h1]; simp [step]
theorem tail_run {nl : List Nat} : ∀ {ps : List (List Nat)} {ws : List Int} (_ : ps ≠ []) (_ : ∀ p ∈ ws, 0 ≤ p ∧ p ≤ (nl.length : Int)), runT nl (tailT ps) (ws.take 1) = (PS nl ps ws).reverse
  | [], _, h, _ => absurd rfl h
  | [q], ws, _, hm => by
    show runT nl (q.map .lit) (stepGreedy nl (ws.take 1)) = (runB nl q (stepLazy nl (ws.take 1))).reverse
    rw [runT_lits, greedy_rev hm, runB_rev]
  | q :: r :: rs, ws, _, hm => by
    show runT nl (tailT (r :: rs)) (step nl (.group q) (ws.take 1)) = (PS nl (r :: rs) (runB nl q (stepLazy nl (ws.take 1)))).reverse
    rw [group_take, tail_run (by simp) (runB_mem (stepLazy_mem (mem_take1 hm)))]
theorem runT_append (nl : List Nat) (a b : List Tk) (ws : List Int) : runT nl (a ++ b) ws = runT nl b (runT nl a ws) := by simp [runT, List.foldl_append]
/-- the law's heart: the walk's ways are the places, the farthest first -/
theorem ways_places {nl l : List Nat} (h42 : 42 ∈ l) : runT nl (toksP (spl l)) [0] = (plRun nl l [0]).reverse := by
  rw [plRun_spl]
  cases h : spl l with
  | nil => exact absurd h (spl_ne l)
  | cons p ps =>
    have hps : ps ≠ [] := by
      rintro rfl
      have hj : ∀ l : List Nat, 42 ∈ l → (spl l).length ≠ 1 := by
        intro l
        induction l with
        | nil => intro h; cases h
        | cons c r ih =>
          intro hm
          rw [spl_cons]
          by_cases hc : c = 42
          · rw [if_pos hc]
            have := spl_ne r
            cases q : spl r with
            | nil => exact absurd q this
            | cons a b => simp
          · rw [if_neg hc]
            have hm' : 42 ∈ r := by
              rcases List.mem_cons.mp hm with e | e
              · exact absurd e.symm hc
              · exact e
            have := ih hm'
            cases q : spl r with
            | nil => exact absurd q (spl_ne r)
            | cons a b => rw [q] at this; exact this
      exact hj l h42 (by rw [h]; rfl)
    rw [toksP, runT_append, runT_lits]
    have h0 : ∀ q ∈ [(0 : Int)], 0 ≤ q ∧ q ≤ (nl.length : Int) := by intro q hq; rw [List.mem_singleton.mp hq]; omega
    have hl : (runB nl p [0]).length ≤ 1 := runB_len nl p [0]
    have e : runB nl p [0] = (runB nl p [0]).take 1 := (List.take_of_length_le hl).symm
    rw [e, tail_run hps (runB_mem h0)]
    rfl
theorem spl_two {l : List Nat} (h42 : 42 ∈ l) : ∃ p ps, spl l = p :: ps ∧ ps ≠ [] := by
  cases h : spl l with
  | nil => exact absurd h (spl_ne l)
  | cons p ps =>
    refine ⟨p, ps, rfl, ?_⟩
    rintro rfl
    have hf := spl_free l
    have : ∀ l : List Nat, ∀ p, spl l = [p] → l = p := by
      intro l
      induction l with
      | nil => intro p h; simp [spl] at h; exact h.symm
      | cons c r ih =>
        intro p h
        rw [spl_cons] at h
        by_cases hc : c = 42
        · rw [if_pos hc] at h
          simp at h
          exact absurd h.2 (spl_ne r)
        · rw [if_neg hc] at h
          cases q : spl r with
          | nil => exact absurd q (spl_ne r)
          | cons a b =>
            rw [q] at h
            simp at h
            obtain ⟨rfl, rfl⟩ := h
            rw [ih a q]
    have e := this l p h
    exact hf p (by rw [h]; exact .head _) (e ▸ h42)
theorem spl_mem : ∀ (l : List Nat) (P : Nat → Prop), (∀ c ∈ l, P c ∨ c = 42) → ∀ p ∈ spl l, ∀ c ∈ p, P c
  | [], P, _, p, hp, c, hc => by simp [spl] at hp; subst hp; cases hc
  | d :: r, P, h, p, hp, c, hc => by
    have ih := spl_mem r P fun c hc => h c (.tail _ hc)
    rw [spl_cons] at hp
    by_cases hd : d = 42
    · rw [if_pos hd] at hp
      rcases List.mem_cons.mp hp with rfl | hp
      · cases hc
      · exact ih p hp c hc
    · rw [if_neg hd] at hp
      cases q : spl r with
      | nil => exact absurd q (spl_ne r)
      | cons a b =>
        rw [q] at hp
        rcases List.mem_cons.mp hp with rfl | hp
        · rcases List.mem_cons.mp hc with rfl | hc
          · exact (h c (.head _)).resolve_right hd
          · exact ih a (by rw [q]; exact .head _) c hc
        · exact ih p (by rw [q]; exact .tail _ hp) c hc
/-- what the walk reads of a path with a star -/
theorem path_toks {l : List Nat} (h42 : 42 ∈ l) (ho : ∀ c ∈ l, okc c ∨ c = 42) : ∃ toks, toks ≠ [] ∧ wf toks ∧ cntM toks ≤ 1 ∧ tpl l = rendL toks ∧ ∀ nl, runT nl toks [0] = (plRun nl l [0]).reverse := by
  obtain ⟨p, ps, h, hps⟩ := spl_two h42
  refine ⟨toksP (spl l), ?_, ?_, ?_, ?_, fun nl => ways_places h42⟩
  · rw [h, toksP]
    cases ps with
    | nil => exact absurd rfl hps
    | cons q r => cases r <;> simp [tailT]
  · rw [h]; exact toksP_wf (h ▸ spl_mem l okc ho)
  · rw [h]; exact toksP_cnt _ _
  · rw [h, toksP_rend hps, tpl, h]
theorem tailP_len : ∀ ps : List (List Nat), (tailP ps).length ≤ 2 * (ps.map List.length).sum + 7 * ps.length
  | [] => by simp [tailP]
  | [q] => by have := E_len q; simp [tailP]; omega
  | q :: r :: rs => by
    have ih := tailP_len (r :: rs)
    have := E_len q
    rw [tailP]
    simp only [List.length_append, List.map_cons, List.sum_cons, List.length_cons, opn, List.length_nil] at ih ⊢
    omega
theorem tpP_len : ∀ ps : List (List Nat), (tpP ps).length ≤ 2 * (ps.map List.length).sum + 7 * ps.length
  | [] => by simp [tpP]
  | [q] => by have := E_len q; simp [tpP]; omega
  | q :: r :: rs => by
    have ih := tailP_len (r :: rs)
    have := E_len q
    rw [tpP]
    simp only [List.length_append, List.map_cons, List.sum_cons, List.length_cons] at ih ⊢
    omega
theorem tp_len (x : Str) : (tp x).length ≤ 9 * x.length + 9 := by
  rw [← tl_length, tl_tp, tpl]
  have h := tpP_len (spl (tl x))
  have h2 := split_weight x (Str.ofString "*") (by decide)
  have h3 : (Txt.split x (Str.ofString "*")) = pieces x := rfl
  rw [h3] at h2
  have h4 : ((pieces x).map (·.length)).sum = ((spl (tl x)).map List.length).sum := by
    rw [← pieces_spl, List.map_map]
    congr 1
  have h5 : (pieces x).length = (spl (tl x)).length := by rw [← pieces_spl, List.length_map]
  omega
end Mine
namespace Mine
open PySem.Builtin PyProof.V PySem.Spec

/-- a turn's end where the loop's name is a cell -/
def CellStep (h₀ : Heap) (L c : Addr) (own : List (Addr × Obj)) (I : Addr) (Jn : (Str → Option Value) → List (Addr × Obj) → Prop) (s₁ : Shared) (f : Flow) (s₂ : Shared) : Prop :=
  f = .next ∧ ∃ h' tk m₂ o₂ news₂, s₂ = { s₁ with heap := h', toks := tk } ∧ Fr h₀ L h' m₂ ∧ News h₀ L h' ((c, o₂) :: (own ++ news₂)) ∧ (∀ p ∈ news₂, p.1 ≠ I ∧ p.1 ≠ c) ∧ (∃ v, o₂.data = .cell v) ∧ Jn m₂ news₂

section
variable {prog : Program} {w : World} {A : Around} {E : Value → Shared → Prop} {s : Shared} {env : Env}

def CellLoop (prog : Program) (w : World) (A : Around) (h₀ : Heap) (env : Env) (c : Addr) (body : List Stmt) (Q : Flow → Shared → Prop) (E : Value → Shared → Prop) (it : Value) (s₂ : Shared) : Prop :=
  ∃ (I : Addr) (n : Nat) (P : Nat → Value → Prop) (St : Nat → Heap → Prop) (m : Str → Option Value) (o : Obj) (news : List (Addr × Obj)) (J : Nat → (Str → Option Value) → List (Addr × Obj) → Prop),
    it = .ref I ∧ Walks prog w A I [I] [I] n P St ∧ (∀ i h, St i h → ∃ o, h.get? I = some o) ∧ I ≠ env.locals ∧ I ≠ c ∧ h₀.get? I = none ∧ (∀ p ∈ news, p.1 ≠ I ∧ p.1 ≠ c) ∧ St 0 s₂.heap ∧ Fr h₀ env.locals s₂.heap m ∧ News h₀ env.locals s₂.heap ((c, o) :: news) ∧ (∃ v, o.data = .cell v) ∧ J 0 m news ∧
    (∀ i v m₁ o₁ oI news₁ h tk, i < n → P i v → J i m₁ news₁ → (∀ p ∈ news₁, p.1 ≠ I ∧ p.1 ≠ c) → o₁.data = .cell (some v) → Fr h₀ env.locals h m₁ → News h₀ env.locals h ((c, o₁) :: ([(I, oI)] ++ news₁)) →
      wpAny (model prog w) A (execs body env) (CellStep h₀ env.locals c [(I, oI)] I (J (i + 1)) { s₂ with heap := h, toks := tk }) E { s₂ with heap := h, toks := tk }) ∧
    ∀ h' tk m' o' news', Fr h₀ env.locals h' m' → News h₀ env.locals h' ((c, o') :: news') → (∀ p ∈ news', p.1 ≠ c) → (∃ v, o'.data = .cell v) → J n m' news' → Q .next { s₂ with heap := h', toks := tk }

theorem For_cell {Q : Flow → Shared → Prop} {x : Str} {px pos : Pos} {iter : PySem.Expr} {body : List Stmt} {c : Addr} (h₀ : Heap) (hx : env.kindOf x = some .cell) (hc : env.cells.lookup x = some c) (hk : env.scope.kind = .function)
    (h : wpAny (model prog w) A (eval iter env) (fun xv s₁ => wpAny (model prog w) A (pyIter xv) (fun it s₂ => CellLoop prog w A h₀ env c body Q E it s₂) E s₁) E s)
    (hs : ∀ x, foldedSetIterable iter env x = pure x := by intro _; rfl)
    (hE : PassesOwn (model prog w) A env E := by passes_own) :
    wpAny (model prog w) A (exec (.For (.Name x px) iter body [] pos) env) Q E s := by
  refine wpAny_For (wpAny_mono h (fun xv s₁ h₁ => wpAny_mono h₁ (fun it s₂ h₂ => ?_) fun _ _ e => e) fun _ _ e => e) hs
  obtain ⟨I, n, P, St, m, o, news, J, rfl, W, hlive, hIL, hIc, hI0, hnw, hst, F, N, hd, h0, step, hQ⟩ := h₂
  refine codeAny_forLoop (R := fun r s' => match r with | .ok f => Q f s' | .error e => cameBackBy (model prog w) A env E e s')
    (fun k s' => ∃ h' tk m' o' news' i, s' = { s₂ with heap := h', toks := tk } ∧ St i h' ∧ Fr h₀ env.locals h' m' ∧ News h₀ env.locals h' ((c, o') :: news') ∧ (∀ p ∈ news', p.1 ≠ I ∧ p.1 ≠ c) ∧ (∃ v, o'.data = .cell v) ∧ J i m' news' ∧ i ≤ n ∧ k = n + 1 - i) ?_ (n + 1)
    ⟨s₂.heap, s₂.toks, m, o, news, 0, rfl, hst, F, N, hnw, hd, h0, Nat.zero_le _, rfl⟩
  rintro k s' ⟨h', tk, m', o', news', i, rfl, hst', F', N', hnw', ⟨v₀, hd'⟩, hJ, hi, rfl⟩
  have next : ∀ h₁ : Heap, (∀ b o, b ∉ [I] → h'.get? b = some o → h₁.get? b = some o) → Fr h₀ env.locals h₁ m' ∧ News h₀ env.locals h₁ ((c, o') :: news') := fun h₁ hk₁ =>
    ⟨⟨F'.ns.at' fun o e => hk₁ _ o (fun hm => hIL (List.mem_singleton.mp hm).symm) e, fun b o e => hk₁ b o (fun hm => by rw [List.mem_singleton.mp hm, hI0] at e; cases e) (F'.keep b o e), F'.above⟩,
      fun p hp => ⟨hk₁ _ _ (fun hm => by
        rcases List.mem_cons.mp hp with rfl | hp
        · exact hIc (List.mem_singleton.mp hm).symm
        · exact (hnw' p hp).1 (List.mem_singleton.mp hm)) (N' p hp).1, (N' p hp).2⟩⟩
  by_cases hlt : i < n
  · refine W.item i _ _ _ hlt hst' fun v h₁ tk₁ hP hst₁ hk₁ => ?_
    obtain ⟨F₁, N₁⟩ := next h₁ hk₁
    obtain ⟨oI, hoI⟩ := hlive _ _ hst₁
    have hp : (env.scope.kind == .class || (env.scope.kind == .module && env.locals != env.globals)) = false := by rw [hk]; rfl
    have N₁' : News h₀ env.locals h₁ ((c, o') :: ([(I, oI)] ++ news')) := by
      intro p hp
      rcases List.mem_cons.mp hp with rfl | hp
      · exact N₁ _ (.head _)
      · rcases List.mem_cons.mp hp with rfl | hp
        · exact ⟨hoI, hIL, hI0⟩
        · exact N₁ _ (.tail _ hp)
    have hoff : ∀ p ∈ [(I, oI)] ++ news', p.1 ≠ c := by
      intro p hp
      rcases List.mem_cons.mp hp with rfl | hp
      · exact hIc
      · exact (hnw' p hp).2
    refine wpAny_assign_Name (store_cell (o := o') F₁ N₁' hoff hd' hk hx hc fun h₂ o₂ F₂ N₂ hd₂ => ?_)
    refine wpAny_mono (wpAny_passesOwn hE (step i v m' o₂ oI news' h₂ tk₁ hlt hP hJ hnw' hd₂ F₂ N₂)) (fun f s₃ h₃ => ?_) fun _ _ e => e
    obtain ⟨rfl, h₃', tk₃, m₂, o₃, news₂, rfl, F₃, N₃, ha₃, hd₃, hJ₃⟩ := h₃
    refine ⟨n + 1 - (i + 1), by omega, h₃', tk₃, m₂, o₃, news₂, i + 1, rfl, ?_, F₃, ?_, ha₃, hd₃, hJ₃, hlt, rfl⟩
    · refine W.frame _ _ _ hst₁ fun b hb o e => ?_
      rw [List.mem_singleton.mp hb] at e ⊢
      rw [hoI] at e
      cases e
      exact (N₃ (I, oI) (.tail _ (.head _))).1
    · intro p hp
      rcases List.mem_cons.mp hp with rfl | hp
      · exact N₃ _ (.head _)
      · exact N₃ _ (.tail _ (.tail _ hp))
  · have hin : i = n := by omega
    subst hin
    refine W.done _ _ _ hst' fun h₁ tk₁ hk₁ => wpAny_execs_nil ?_
    obtain ⟨F₁, N₁⟩ := next h₁ hk₁
    exact hQ h₁ tk₁ m' o' news' F₁ N₁ (fun p hp => (hnw' p hp).2) ⟨v₀, hd'⟩ hJ
theorem pyIter_str' {x : Str} {t : Tok} {Q : Value → Shared → Prop}
    (hQ : ∀ (o : Obj) (St : Nat → Heap → Prop), (∀ A' : Around, A'.handled = none → Walks prog w A' s.heap.objs.size [s.heap.objs.size] [s.heap.objs.size] x.cps.size (SignAt x) St) → (∀ i h, St i h → ∃ o, h.get? s.heap.objs.size = some o) → St 0 (s.heap.push o) →
      Q (.ref s.heap.objs.size) { s with heap := s.heap.push o }) : wpAny (model prog w) A (pyIter (.str x t)) Q E s := by
  cases ha : x.cps.all (· < 128)
  · exact wpAny_pyIter_wide ha (hQ _ _ (fun A' hA => Walks.strWide hA _ x t) (fun i h st => let ⟨o, ho, _⟩ := st; ⟨o, ho⟩) ⟨_, Heap.get?_push_size _ rfl, rfl, rfl⟩)
  · exact wpAny_pyIter_ascii ha (hQ _ _ (fun A' hA => Walks.strAscii hA _ x t) (fun i h st => let ⟨o, ho, _⟩ := st; ⟨o, ho⟩) ⟨_, Heap.get?_push_size _ rfl, rfl, rfl⟩)
/-- a loop over a text whose name is a cell -/
theorem loop_str_cell {h₀ : Heap} {c : Addr} {body : List Stmt} {Q : Flow → Shared → Prop} {x : Str} {t : Tok} {m : Str → Option Value} {o : Obj} {news : List (Addr × Obj)} (J : Nat → (Str → Option Value) → List (Addr × Obj) → Prop)
    (hh : A.handled = none) (F : Fr h₀ env.locals s.heap m) (N : News h₀ env.locals s.heap ((c, o) :: news)) (hnc : ∀ p ∈ news, p.1 ≠ c) (hd : ∃ v, o.data = .cell v) (hJ : J 0 m news)
    (turn : ∀ i ch tc m₁ o₁ I oI news₁ h tk, x.cps.toList[i]? = some ch → i < x.length → J i m₁ news₁ → (∀ p ∈ news₁, p.1 ≠ I ∧ p.1 ≠ c) → o₁.data = .cell (some (.str ⟨#[ch]⟩ tc)) → Fr h₀ env.locals h m₁ → News h₀ env.locals h ((c, o₁) :: ([(I, oI)] ++ news₁)) →
      wpAny (model prog w) A (execs body env) (CellStep h₀ env.locals c [(I, oI)] I (J (i + 1)) { s with heap := h, toks := tk }) E { s with heap := h, toks := tk })
    (done : ∀ h' tk m' o' news', Fr h₀ env.locals h' m' → News h₀ env.locals h' ((c, o') :: news') → (∀ p ∈ news', p.1 ≠ c) → (∃ v, o'.data = .cell v) → J x.length m' news' → Q .next { s with heap := h', toks := tk }) :
    wpAny (model prog w) A (pyIter (.str x t)) (fun it s₂ => CellLoop prog w A h₀ env c body Q E it s₂) E s := by
  refine pyIter_str' fun oI St W hlive hst => ?_
  refine ⟨_, _, _, St, m, o, news, J, rfl, W A hh, hlive, (Nat.ne_of_lt F.ns.lt).symm, (Nat.ne_of_lt (Heap.lt_size (N _ (.head _)).1)).symm, next_is_new F, fun p hp => ⟨Nat.ne_of_lt (Heap.lt_size (N p (.tail _ hp)).1), hnc p hp⟩, hst, F.push _, fun p hp => ⟨Heap.get?_push_of_some _ (N p hp).1, (N p hp).2⟩, hd, hJ, ?_, done⟩
  rintro i v m₁ o₁ oI' news₁ h tk hi ⟨ch, tc, hc, rfl⟩ hJ₁ hoff hd₁ F₁ N₁
  exact turn i ch tc m₁ o₁ _ oI' news₁ h tk (by simpa using hc) hi hJ₁ hoff hd₁ F₁ N₁
theorem list_range_new {h₀ : Heap} {L : Addr} {m : Str → Option Value} {r : Addr} {a b st : Int} {t u v : Tok} {n : Nat} {news : List (Addr × Obj)} {Q : Value → Shared → Prop} (hh : A.handled = none) (F : Fr h₀ L s.heap m) (N : News h₀ L s.heap news)
    (hr : IsRange s.heap r a b st t u v) (hsmall : Builtin.Range.small a b st = true) (hn : Builtin.Range.rangeSize a b st = (n : Int)) (hlen : n ≤ 2 ^ 24)
    (hQ : ∀ h' tk (ys : List Value) c, Fr h₀ L h' m → News h₀ L h' ((s.heap.objs.size, W.listOf (List.toArray ys) c) :: news) → IntsAre ys (runL a st n) → (∀ p ∈ news, p.1 ≠ s.heap.objs.size) → Q (.ref s.heap.objs.size) { s with heap := h', toks := tk }) :
    wpAny (model prog w) A (call (.type "list") [.ref r]) Q E s := by
  refine list_rangeD hh F N hr hsmall hn hlen fun h' tk ys F' N' hk h0 hl hp hc => ?_
  have hne := hp.ne_locals F'
  obtain ⟨⟨c, hpl⟩, hpn⟩ := hp
  refine hQ h' tk ys c F' ?_ (IntsAre.ofCarried hc) hpn
  intro q hq
  rcases List.mem_cons.mp hq with rfl | hq
  · exact ⟨hpl, hne, h0⟩
  · exact N' q hq
theorem CellStep.intro {h₀ h' : Heap} {L c : Addr} {own : List (Addr × Obj)} {I : Addr} {Jn : (Str → Option Value) → List (Addr × Obj) → Prop} {s₁ : Shared} {tk : Nat} {m₂ : Str → Option Value} {o₂ : Obj} {v : Option Value} (news₂ : List (Addr × Obj))
    (F : Fr h₀ L h' m₂) (N : News h₀ L h' ((c, o₂) :: (own ++ news₂))) (ha : ∀ p ∈ news₂, p.1 ≠ I ∧ p.1 ≠ c) (hd : o₂.data = .cell v) (hJ : Jn m₂ news₂) : CellStep h₀ L c own I Jn s₁ .next { s₁ with heap := h', toks := tk } :=
  ⟨rfl, h', tk, m₂, o₂, news₂, rfl, F, N, ha, ⟨v, hd⟩, hJ⟩
end
end Mine
namespace Mine
open PySem.Builtin

local macro_rules | `(tactic| walk_at "my steps") => `(tactic| repeat' (first | (k_unfold; (try dsimp only)) | ((fail_if_success (with_reducible show wpAny _ _ (pyIter _) _ _ _)); (fail_if_success (with_reducible show Exists _)); (fail_if_success (with_reducible show wpAny _ _ (exec (Stmt.If (PySem.Expr.Compare (PySem.Expr.ListComp _ _ _ _) _ _ _) _ _ _) _) _ _ _)); (fail_if_success (with_reducible show wpAny _ _ (exec (Stmt.For _ _ _ _ _) _) _ _ _)); (fail_if_success (with_reducible show wpAny _ _ (exec (Stmt.Assign _ (PySem.Expr.ListComp _ _ _ _) _) _) _ _ _)); (fail_if_success (with_reducible show wpAny _ _ (call (Value.ref _) _) _ _ _)); (fail_if_success (with_reducible show wpAny _ _ (call (Value.type "list") _) _ _ _)); (first | walk1 | (dsimp only; walk1)); (try dsimp only))))

theorem fr_map {h₀ h : Heap} {L : Addr} {m m' : Str → Option Value} (F : Fr h₀ L h m) (e : m = m') : Fr h₀ L h m' := e ▸ F
def okcB (c : Nat) : Bool := [97, 98, 65, 46, 47, 42].contains c
theorem path_sign {r : Int} (h0 : 0 ≤ r) (h1 : r < 7) : ∀ c ∈ tl (Txt.item (Str.ofString "abA./**") r), okc c ∨ c = 42 := by
  have key : ((List.range 7).all fun (i : Nat) => (tl (Txt.item (Str.ofString "abA./**") (i : Int))).all okcB) = true := by kernel_rfl
  have := List.all_eq_true.mp key r.toNat (by rw [List.mem_range]; omega)
  rw [Int.toNat_of_nonneg h0] at this
  intro c hc
  have := List.all_eq_true.mp this c hc
  unfold okcB at this
  simp only [List.contains_iff_mem, List.mem_cons, List.not_mem_nil, or_false] at this
  unfold okc
  simp only [List.mem_cons, List.not_mem_nil, or_false]
  omega
theorem tl_add_mem {x y : Str} {P : Nat → Prop} (hx : ∀ c ∈ tl x, P c) (hy : ∀ c ∈ tl y, P c) : ∀ c ∈ tl (x ++ y), P c := by
  intro c hc
  rw [tl_append] at hc
  rcases List.mem_append.mp hc with h | h
  · exact hx c h
  · exact hy c h
theorem News.at' {h₀ h : Heap} {L : Addr} {news : List (Addr × Obj)} (N : News h₀ L h news) : ∀ p, p ∈ news → h.get? p.1 = some p.2 ∧ p.1 ≠ L ∧ h₀.get? p.1 = none := fun p hp => N p hp
theorem ne_succ2 {L : Nat} : L + 1 + 1 ≠ L + 1 := by omega
theorem store_second {M : Model} {A : Around} {E : Value → Shared → Prop} {s : Shared} {h₀ : Heap} {L : Addr} {m : Str → Option Value} {env : Env} {x : Str} {a c : Addr} {oS o : Obj} {own : List (Addr × Obj)} {v₀ : Option Value} {v : Value} {Q : Unit → Shared → Prop}
    (F : Fr h₀ L s.heap m) (N : News h₀ L s.heap ([(a, oS), (c, o)] ++ own)) (hown : ∀ p ∈ own, p.1 ≠ c) (hd : o.data = .cell v₀) (hk : env.scope.kind = .function) (hl : env.kindOf x = some .cell) (hc : env.cells.lookup x = some c)
    (h : ∀ h' o', Fr h₀ L h' m → News h₀ L h' ([(a, oS), (c, o')] ++ own) → o'.data = .cell (some v) → Q () { s with heap := h' }) (hac : a ≠ c := by exact ne_succ2) : wpAny M A (storeName env x v) Q E s := by
  refine store_cell (o := o) F (rest := (a, oS) :: own) (fun p hp => N p ?_) ?_ hd hk hl hc fun h7 o7 hF7 hN7 hd7 => h h7 o7 hF7 (fun p hp => hN7 p ?_) hd7
  · simp only [List.mem_cons, List.mem_append, List.not_mem_nil, or_false] at hp ⊢
    rcases hp with h | h | h
    · exact .inl (.inr h)
    · exact .inl (.inl h)
    · exact .inr h
  · intro p hp
    rcases List.mem_cons.mp hp with rfl | hp
    · exact hac
    · exact hown p hp
  · simp only [List.mem_cons, List.mem_append, List.not_mem_nil, or_false] at hp ⊢
    rcases hp with (h | h) | h
    · exact .inr (.inl h)
    · exact .inl h
    · exact .inr (.inr h)
theorem eq_nil {prog : Program} {w : World} {A : Around} {E : Value → Shared → Prop} {s : Shared} {D l : Addr} {vs : List Value} {Q : Value → Shared → Prop} (hu : A.units < cLine) (hl : s.heap.IsList D vs.toArray) (hb : s.heap.IsList l #[])
    (h : Q (.bool vs.isEmpty) s) : wpAny (model prog w) A (compareOp .Eq (.ref D) (.ref l)) Q E s := by
  cases vs with
  | nil => exact SeqAt.eq_listAt (e := fun _ => true) hl hb rfl hu (fun j h1 _ => absurd h1 (Nat.not_lt_zero _)) h
  | cons v r => exact SeqAt.eq_list_lengthsAt hl hb (by simp) hu h
theorem ne_nil {prog : Program} {w : World} {A : Around} {E : Value → Shared → Prop} {s : Shared} {D l : Addr} {vs : List Value} {Q : Value → Shared → Prop} (hu : A.units < cLine) (hl : s.heap.IsList D vs.toArray) (hb : s.heap.IsList l #[])
    (h : Q (.bool (!vs.isEmpty)) s) : wpAny (model prog w) A (compareOp .NotEq (.ref D) (.ref l)) Q E s := by
  cases vs with
  | nil => exact SeqAt.RcNeAt.lists (e := fun _ => true) hl hb rfl hu (fun j h1 _ => absurd h1 (Nat.not_lt_zero _)) prog w E Q h
  | cons v r => exact SeqAt.RcNeAt.lists_lengths hl hb (by simp) hu prog w E Q h
theorem star_eq {ch : Nat} {b : Bool} (h : ((⟨#[ch]⟩ : Str) == Str.ofString "*") = b) : (ch == 42) = b := by
  rw [show Str.ofString "*" = ⟨#[42]⟩ by decide, one_eq] at h; exact h
theorem pl_next {nl l : List Nat} {i ch : Nat} (h : l[i]? = some ch) : plRun nl (l.take (i + 1)) [0] = plStep nl (plRun nl (l.take i) [0]) ch := by
  rw [List.take_add_one, h]
  exact plRun_snoc nl (l.take i) ch [0]
theorem zero_ok {nl : List Nat} : ∀ p ∈ [(0 : Int)], 0 ≤ p ∧ p ≤ (nl.length : Int) := by intro q hq; rw [List.mem_singleton.mp hq]; omega
theorem asc_head {ws : List Int} {M : Int} (ha : Asc ws) (h1 : M ∈ ws) (h2 : ∀ a ∈ ws, M ≤ a) : ws.take 1 = [M] := by
  cases ws with
  | nil => cases h1
  | cons a r =>
    have := h2 a (.head _)
    rcases List.mem_cons.mp h1 with rfl | h1
    · rfl
    · have := (List.pairwise_cons.mp ha).1 M h1
      omega
theorem sorted_unique : ∀ {a b : List Int}, a.Perm b → a.Pairwise (· ≤ ·) → b.Pairwise (· ≤ ·) → a = b
  | [], b, p, _, _ => p.nil_eq
  | x :: a, [], p, _, _ => absurd p.symm.nil_eq (by simp)
  | x :: a, y :: b, p, ha, hb => by
    have hxy : x = y := by
      have h1 := p.mem_iff.mp (List.mem_cons_self (a := x) (l := a))
      have h2 := p.mem_iff.mpr (List.mem_cons_self (a := y) (l := b))
      rcases List.mem_cons.mp h1 with h1 | h1
      · exact h1
      · rcases List.mem_cons.mp h2 with h2 | h2
        · exact h2.symm
        · exact Int.le_antisymm ((List.pairwise_cons.mp ha).1 y h2) ((List.pairwise_cons.mp hb).1 x h1)
    subst hxy
    rw [sorted_unique (List.perm_cons x |>.mp p) (List.pairwise_cons.mp ha).2 (List.pairwise_cons.mp hb).2]
theorem asc_le {ws : List Int} (h : Asc ws) : ws.Pairwise (· ≤ ·) := List.Pairwise.imp (fun h => Int.le_of_lt h) h
theorem last_first (ws : List Int) : ws.reverse.take 1 = ws.drop (ws.length - 1) := by
  rw [List.take_reverse, List.reverse_eq_iff]
  rcases List.eq_nil_or_concat ws with rfl | ⟨l, a, rfl⟩
  · rfl
  · simp
theorem eq_ints_same {prog : Program} {w : World} {A : Around} {E : Value → Shared → Prop} {s : Shared} {D l : Addr} {its its2 : Array Value} {ns : List Int} {Q : Value → Shared → Prop} (hu : A.units < cLine) (hl : s.heap.IsList D its) (hb : s.heap.IsList l its2) (h1 : IntsAre its.toList ns) (h2 : IntsAre its2.toList ns)
    (h : Q (.bool true) s) : wpAny (model prog w) A (compareOp .Eq (.ref D) (.ref l)) Q E s := by
  have e1 := h1.length
  have e2 := h2.length
  rw [Array.length_toList] at e1 e2
  refine SeqAt.eq_listAt (e := fun _ => true) hl hb (e1.trans e2.symm) hu (fun j j1 j2 => ?_) (by rw [List.all_eq_true.mpr fun _ _ => rfl]; exact h)
  have hj : ns[j]? = some ns[j] := List.getElem?_eq_getElem (by omega)
  obtain ⟨t1, e1⟩ := h1.get j _ hj
  obtain ⟨t2, e2⟩ := h2.get j _ hj
  have f1 : its[j] = .int ns[j] t1 := by simpa [List.getElem?_eq_getElem, j1] using e1
  have f2 : its2[j] = .int ns[j] t2 := by simpa [List.getElem?_eq_getElem, j2] using e2
  rw [f1, f2]
  have := SeqAt.EqAt.int_int (A := A.in1) (s := s) ns[j] t1 ns[j] t2
  rwa [beq_self_eq_true] at this
theorem u3 (env : Env) : (callerA.deeper env).units < cLine := by show callerA.units + 3 < _; decide
/-- what stands behind the star's being put in -/
def Mid (h₀ : Heap) (s : Shared) (L lS : Addr) (oS o : Obj) (f : Flow) (s' : Shared) : Prop :=
  f = .next ∧ ∃ h' tk p tp u, s' = { s with heap := h', toks := tk } ∧ Fr h₀ L h' (fun y => if y = Str.ofString "path" then some (.str p tp) else if y = Str.ofString "k" then u else if y = Str.ofString "script" then some (.ref lS) else none) ∧ News h₀ L h' [(L + 1 + 1, oS), (L + 1, o)] ∧ p.length ≤ 64 ∧ 42 ∈ tl p ∧ (∀ c ∈ tl p, okc c ∨ c = 42)
theorem mid_intro {h₀ : Heap} {s : Shared} {L lS : Addr} {oS o : Obj} {h' : Heap} {tk : Nat} {p : Str} {tp : Tok} {u : Option Value} {m : Str → Option Value} {news : List (Addr × Obj)} (F : Fr h₀ L h' m) (N : News h₀ L h' news) (hm : m = fun y => if y = Str.ofString "path" then some (.str p tp) else if y = Str.ofString "k" then u else if y = Str.ofString "script" then some (.ref lS) else none) (hn : ∀ q ∈ [(L + 1 + 1, oS), (L + 1, o)], q ∈ news) (h1 : p.length ≤ 64) (h2 : 42 ∈ tl p) (h3 : ∀ c ∈ tl p, okc c ∨ c = 42) :
    Mid h₀ s L lS oS o .next { s with heap := h', toks := tk } := ⟨rfl, h', tk, p, tp, u, rfl, hm ▸ F, fun q hq => N q (hn q hq), h1, h2, h3⟩
theorem mid_cut {prog : Program} {w : World} {A : Around} {s : Shared} {E : Value → Shared → Prop} {Q : Flow → Shared → Prop} {t : Sem Flow} {h₀ : Heap} {L : Addr} {m : Str → Option Value} (lS : Addr) (oS o : Obj) (F : Fr h₀ L s.heap m) (h : wpAny (model prog w) A t (Mid h₀ s L lS oS o) E s)
    (h2 : ∀ h' tk p tp u, Fr h₀ L h' (fun y => if y = Str.ofString "path" then some (.str p tp) else if y = Str.ofString "k" then u else if y = Str.ofString "script" then some (.ref lS) else none) → News h₀ L h' [(L + 1 + 1, oS), (L + 1, o)] → p.length ≤ 64 → 42 ∈ tl p → (∀ c ∈ tl p, okc c ∨ c = 42) → Q .next { s with heap := h', toks := tk }) : wpAny (model prog w) A t Q E s :=
  wpAny_mono h (fun f s' hq => by obtain ⟨rfl, h', tk, p, tp, u, rfl, a, b, c, d, e⟩ := hq; exact h2 h' tk p tp u a b c d e) fun _ _ e => e
theorem no_star {x : Str} {ys : List Value} (h : CarriedAll ys (List.map PyData.str (List.filter (fun a => a == Str.ofString "*") (signs x)))) (h0 : ys.isEmpty = false) : 42 ∈ tl x := by
  have hl := CarriedAll.length_eq h
  rw [List.length_map] at hl
  cases hf : List.filter (fun a => a == Str.ofString "*") (signs x) with
  | nil => rw [hf] at hl; cases ys with
    | nil => cases h0
    | cons a b => cases hl
  | cons a r =>
    have hm : a ∈ List.filter (fun a => a == Str.ofString "*") (signs x) := by rw [hf]; exact .head _
    obtain ⟨hm, he⟩ := List.mem_filter.mp hm
    obtain ⟨c, hc, rfl⟩ := List.mem_map.mp hm
    rw [show Str.ofString "*" = ⟨#[42]⟩ by decide, one_eq] at he
    rw [← eq_of_beq he]; exact hc
theorem star_put_tl (x : Str) : tl (Txt.slice x none (some ((x.length : Int).fdiv 2)) ++ Str.ofString "*" ++ Txt.slice x (some ((x.length : Int).fdiv 2)) none) = (tl x).take ((x.length : Int).fdiv 2).toNat ++ 42 :: (tl x).drop ((x.length : Int).fdiv 2).toNat := by
  have h0 : 0 ≤ (x.length : Int).fdiv 2 := by rw [Int.fdiv_eq_ediv_of_nonneg _ (by decide)]; omega
  have h1 : (x.length : Int).fdiv 2 ≤ (tl x).length := by rw [Int.fdiv_eq_ediv_of_nonneg _ (by decide), tl_length]; omega
  rw [tl_append, tl_append, slice_to_tl h0 h1, slice_from_tl h0 h1, show tl (Str.ofString "*") = [42] by decide]
  simp
theorem star_put_len (x : Str) : (Txt.slice x none (some ((x.length : Int).fdiv 2)) ++ Str.ofString "*" ++ Txt.slice x (some ((x.length : Int).fdiv 2)) none).length = x.length + 1 := by
  rw [← tl_length, star_put_tl, List.length_append, List.length_cons, List.length_take, List.length_drop, tl_length]
  omega
theorem star_put_mem (x : Str) : 42 ∈ tl (Txt.slice x none (some ((x.length : Int).fdiv 2)) ++ Str.ofString "*" ++ Txt.slice x (some ((x.length : Int).fdiv 2)) none) := by
  rw [star_put_tl]; simp
theorem star_put_ok {x : Str} (h : ∀ c ∈ tl x, okc c ∨ c = 42) : ∀ c ∈ tl (Txt.slice x none (some ((x.length : Int).fdiv 2)) ++ Str.ofString "*" ++ Txt.slice x (some ((x.length : Int).fdiv 2)) none), okc c ∨ c = 42 := by
  intro c hc
  rw [star_put_tl] at hc
  rcases List.mem_append.mp hc with hc | hc
  · exact h c (List.mem_of_mem_take hc)
  · rcases List.mem_cons.mp hc with rfl | hc
    · exact .inr rfl
    · exact h c (List.mem_of_mem_drop hc)
theorem news_add {h₀ h h' : Heap} {L D : Addr} {m : Str → Option Value} {o : Obj} {news : List (Addr × Obj)} (F : Fr h₀ L h m) (hn : h.get? D = none) (hg : h'.get? D = some o) (N : News h₀ L h' news) : News h₀ L h' ((D, o) :: news) := by
  intro q hq
  rcases List.mem_cons.mp hq with rfl | hq
  · refine ⟨hg, ?_, ?_⟩
    · rintro rfl
      obtain ⟨o, _, _, ho, _⟩ := F.ns
      rw [hn] at ho; cases ho
    · cases q2 : h₀.get? D with
      | none => rfl
      | some o => have := F.keep _ _ q2; rw [hn] at this; cases this
  · exact N q hq
theorem news_nil {h₀ h : Heap} {L : Addr} : News h₀ L h [] := fun _ h => nomatch h
theorem news_cons {h₀ h : Heap} {L a : Addr} {o : Obj} {r : List (Addr × Obj)} (h1 : h.get? (a, o).1 = some (a, o).2 ∧ (a, o).1 ≠ L ∧ h₀.get? (a, o).1 = none) (N : News h₀ L h r) : News h₀ L h ((a, o) :: r) := by
  intro q hq
  rcases List.mem_cons.mp hq with rfl | hq
  · exact h1
  · exact N q hq
end Mine
open Mine PySem.Builtin
local macro_rules | `(tactic| walk_at "my steps") => `(tactic| repeat' (first | (k_unfold; (try dsimp only)) | ((fail_if_success (with_reducible show wpAny _ _ (pyIter _) _ _ _)); (fail_if_success (with_reducible show Exists _)); (fail_if_success (with_reducible show wpAny _ _ (exec (Stmt.If (PySem.Expr.Compare (PySem.Expr.ListComp _ _ _ _) _ _ _) _ _ _) _) _ _ _)); (fail_if_success (with_reducible show wpAny _ _ (exec (Stmt.For _ _ _ _ _) _) _ _ _)); (fail_if_success (with_reducible show wpAny _ _ (exec (Stmt.Assign _ (PySem.Expr.ListComp _ _ _ _) _) _) _ _ _)); (fail_if_success (with_reducible show wpAny _ _ (call (Value.ref _) _) _ _ _)); (fail_if_success (with_reducible show wpAny _ _ (call (Value.type "list") _) _ _ _)); (first | walk1 | (dsimp only; walk1)); (try dsimp only))))
set_option maxRecDepth 100000 in
set_option maxHeartbeats 8000000 in
theorem PySem.Challenge.cw_kn0088_03_holds : PySem.Challenge.rw_kn0088_03.Holds := by
  refine hd3 ?_
  k_go0
  rename Shared => s1
  rename World => w
  rename List Int => ns
  rename List Value => vsS
  rename Frag.In _ _ => KX
  rename Top _ _ _ _ _ _ => hT
  rename IntsAre _ _ => hI
  rename Heap.IsList _ _ _ => hL
  rename ¬ _ => hlen63
  have C0 : ∀ env, Cx (hd3.heap_39 w.params) hd3.view_39 (looseW hd3.view_39 [Str.ofString "_special_chars_map"]) _ _ _ (callerA.deeper env) _ 30 := fun env => ⟨rfl, by show callerA.depth + 1 + 30 < _; decide, by show callerA.units + 3 + 8 * 30 < _; decide, KX, hT⟩
  walk_at "my steps"
  walk1
  try dsimp only
  walk_at "my steps"
  rename_i lS _ _ _ _ _ _ _ _ h₁ tk₁ oS oN₀ dS dN₀ hCl h2 tk2 h3 oN F3 N3 dN h5 tk5 t5 u5 v5 hr5 hF5 hN5 hk5
  have hn63 : ns.length ≤ 63 := by omega
  try dsimp only at hr5
  replace hF5 := fr_map (m' := fun y => if y = Str.ofString "path" then some (Value.str (Str.ofString "") tk₁) else if y = Str.ofString "script" then some (.ref lS) else none) hF5 (by kernel_rfl)
  refine iter_rangeJ (n := ns.length) (fun i m news => (∀ y, y ∉ [Str.ofString "path", Str.ofString "k"] → m y = if y = Str.ofString "script" then some (.ref lS) else none) ∧ ∃ (x : Str) (t : Tok) (o : Obj) (nm : Str) (u : Tok), m (Str.ofString "path") = some (.str x t) ∧ news = [(_, oS), (_, o)] ∧ o.data = .cell (some (.str nm u)) ∧ x.length ≤ i ∧ 2 * nm.length ≤ i ∧ ∀ c ∈ tl x, okc c ∨ c = 42)
    rfl hr5 (range_small (by omega) (by omega) (by omega) (by omega)) (by rw [rangeSize_nat]; omega) hF5 hN5 ⟨?_, _, _, oN, _, _, if_pos rfl, rfl, dN, Nat.zero_le _, Nat.zero_le _, ?_⟩ ?_ ?_
  · intro y hy
    simp only [List.mem_cons, List.not_mem_nil, or_false, not_or] at hy
    simp only [hy.1, if_false]
  · intro c hc; cases hc
  · rintro i ti m₁ news₁ h6 tk6 I own hi ⟨hm, x, t, o, nm, u, hmx, rfl, do_, hxl, hnl, hxo⟩ hoff hown hI6 hF6 hN6
    have em := overs_eq hm
    rw [em] at hF6
    simp only [overs, hmx] at hF6
    have hi2 : i < vsS.length := by rw [hI.length]; exact hi
    obtain ⟨q, hq⟩ : ∃ q, ns[i]? = some q := ⟨_, List.getElem?_eq_getElem hi⟩
    obtain ⟨tq, hvq⟩ := hI.get i q hq
    try dsimp only
    walk_at "my steps"
    · rename Fr _ _ _ _ => hF7
      rename News _ _ _ _ => hN7
      refine LoopStepU.intro hF7 (news₂ := [(_, oS), (_, o)]) (fun p hp => hN7 p ?_) ?_ ⟨?_, _, _, o, nm, u, if_pos rfl, rfl, do_, ?_, by omega, tl_add_mem hxo (path_sign (Int.fmod_nonneg_of_pos _ (by decide)) (Int.fmod_lt_of_pos _ (by decide)))⟩
      · simp only [List.mem_cons, List.mem_append, List.not_mem_nil, or_false] at hp ⊢
        rcases hp with h | h | h
        · exact .inr h
        · exact .inl (.inl h)
        · exact .inl (.inr h)
      · intro p hp
        rw [List.mem_singleton]
        simp only [List.mem_cons, List.not_mem_nil, or_false] at hp
        rcases hp with rfl | rfl
        · exact hoff _ (.head _)
        · exact hoff _ (.tail _ (.head _))
      · intro y hy
        simp only [List.mem_cons, List.not_mem_nil, not_or, or_false] at hy
        simp only [hy, if_false]
      · omega
    · rename News _ _ _ _ => hN6'
      refine store_second hF6 hN6' (fun p hp => by rw [hown p hp]; exact Ne.symm (hoff _ (.tail _ (.head _)))) do_ rfl rfl rfl fun h7 o7 hF7 hN7 hd7 => ?_
      try dsimp only
      walk_at "my steps"
      rename (0 + (i : Int)).fmod 2 ≠ 0 => hodd
      rw [Int.fmod_eq_emod_of_nonneg _ (by decide)] at hodd
      refine LoopStepU.intro hF7 (news₂ := [(_, oS), (_, o7)]) (fun p hp => hN7 p ?_) ?_ ⟨?_, x, t, o7, _, _, (if_neg (by decide)).trans (if_pos rfl), rfl, hd7, by omega, by omega, hxo⟩
      · simp only [List.mem_cons, List.mem_append, List.not_mem_nil, or_false] at hp ⊢
        rcases hp with h | h | h
        · exact .inr h
        · exact .inl (.inl h)
        · exact .inl (.inr h)
      · intro p hp
        rw [List.mem_singleton]
        simp only [List.mem_cons, List.not_mem_nil, or_false] at hp
        rcases hp with rfl | rfl
        · exact hoff _ (.head _)
        · exact hoff (_, o) (.tail _ (.head _))
      · intro y hy
        simp only [List.mem_cons, List.not_mem_nil, not_or, or_false] at hy
        simp only [hy, if_false]
  · rintro m₁ news₁ h6 tk6 ⟨hm, x, t, o, nm, u, hmx, rfl, do_, hxl, hnl, hxo⟩ hF6 hN6
    have em := overs_eq hm
    rw [em] at hF6
    simp only [overs, hmx] at hF6
    try dsimp only
    walk_at "my steps"
    refine mid_cut lS oS o hF6 ?_ ?_
    · walk1
      try dsimp only
      walk_at "my steps"
      walk1
      try dsimp only
      walk_at "my steps"
      rename Fr _ _ _ _ => hF7
      rename News _ _ _ _ => hN7
      rename Heap.IsList _ _ (List.toArray _) => hlD
      rename CarriedAll _ _ => hcD
      refine eq_nil (u3 _) (News.isList hN7 (.tail _ (.head _))) (News.isList hN7 (.head _)) ?_
      try dsimp only
      walk_at "my steps"
      · rename List.isEmpty _ = true => hemp
        rename Fr _ _ _ _ => hF9
        rename News _ _ _ _ => hN9
        refine mid_intro (fr_map hF9 (upd_upd _ _ _ _)) hN9 (u := m₁ (Str.ofString "k")) rfl ?_ ?_ ?_ ?_
        · intro q hq; exact .tail _ (.tail _ hq)
        · rw [star_put_len]; omega
        · exact star_put_mem x
        · exact star_put_ok hxo
      · rename List.isEmpty _ = false => hemp
        exact mid_intro hF7 hN7 (u := m₁ (Str.ofString "k")) rfl (fun q hq => .tail _ (.tail _ hq)) (by omega) (no_star hcD hemp) hxo
    · intro h8 tk8 p tp8 u8 hF8 hN8 hpl hp42 hpo
      try dsimp only
      walk_at "my steps"
      refine tp_spec (((C0 _).keep (Fr.keep hF8)).le (by decide)) (by omega) fun h9 tk9 tk9' st9 => ?_
      have hF9 := fr_keep hF8 st9
      have hN9 := news_keep hN8 st9
      clear hF8 hN8
      try dsimp only
      walk_at "my steps"
      rename Fr _ _ _ _ => hF10
      rename News _ _ _ _ => hN10
      obtain ⟨toks, htne, htwf, htc, htr, hrun⟩ := path_toks hp42 hpo
      have htl := tp_len p
      refine ways_spec toks htne htwf htc (ws := [0]) (((C0 _).keep (Fr.keep hF10)).le (by decide)) (by omega) (by omega) (by rw [tl_tp]; exact htr) (News.isList hN10 (.head _)) (.cons _ _ .nil) (Nat.le_refl _) ?_ ?_
      · intro q hq; rw [List.mem_singleton.mp hq]; omega
      intro h11 tk11 D11 vs11 c11 st11 hg11 hn11 hv11
      have hF11 := fr_keep hF10 st11
      have hN11 := news_add hF10 hn11 hg11 (news_keep hN10 st11)
      rw [hrun] at hv11
      have hD11S : D11 ≠ s1.heap.objs.size + 1 + 1 := by
        rintro rfl
        have e := (hN10 (_, oS) (.tail _ (.head _))).1
        cases hn11.symm.trans e
      have hD11N : D11 ≠ s1.heap.objs.size + 1 := by
        rintro rfl
        have e := (hN10 (_, o) (.tail _ (.tail _ (.head _)))).1
        cases hn11.symm.trans e
      clear hF10 hN10
      try dsimp only
      walk_at "my steps"
      rename Fr _ _ _ _ => hF12
      rename News _ _ _ _ => hN12
      rename_i lP _ hlP _
      replace hF12 := fr_map (m' := fun y => if y = Str.ofString "places" then some (Value.ref lP) else if y = Str.ofString "ways" then some (.ref D11) else if y = Str.ofString "path" then some (.str p tp8) else if y = Str.ofString "k" then u8 else if y = Str.ofString "script" then some (.ref lS) else none) hF12 (by kernel_rfl)
      have hN13 := news_cons (hN12 _ (.tail _ (.tail _ (.tail _ (.head _))))) (news_cons (hN12 _ (.tail _ (.tail _ (.tail _ (.tail _ (.head _)))))) (news_cons (hN12 _ (.head _)) (news_cons (hN12 _ (.tail _ (.head _))) news_nil)))
      have hDs := hlP
      refine' For_cell s1.heap ?q1 ?q2 ?q3 ?_ ?q4 ?q5
      case q1 => exact rfl
      case q2 => exact rfl
      case q3 => exact rfl
      case q4 => intro _; rfl
      case q5 => passes_own
      walk_at "my steps"
      refine' loop_str_cell (J := fun i m news => (∀ y, y ∉ [Str.ofString "places"] → m y = if y = Str.ofString "ways" then some (.ref D11) else if y = Str.ofString "path" then some (.str p tp8) else if y = Str.ofString "k" then u8 else if y = Str.ofString "script" then some (.ref lS) else none) ∧ ∃ D vs c, m (Str.ofString "places") = some (.ref D) ∧ news = [(s1.heap.objs.size + 1, o), (D, W.listOf (List.toArray vs) c), (D11, W.listOf vs11.toArray c11)] ∧ IntsAre vs (plRun (tl nm) ((tl p).take i) [0])) ?a1 ?a2 ?a3 ?a4 ?a5 ?a6 ?a7 ?a8
      case a1 => exact rfl
      case a2 => exact hF12
      case a3 => exact hN13
      case a4 =>
        intro q hq
        simp only [List.mem_cons, List.not_mem_nil, or_false] at hq
        rcases hq with rfl | rfl | rfl
        · exact Ne.symm ne_succ2
        · exact Ne.symm (Nat.ne_of_lt hlP.2.2.1)
        · exact hD11S
      case a5 => exact ⟨_, dS⟩
      case a6 =>
        refine ⟨?_, lP, _, _, if_pos rfl, rfl, .cons _ _ .nil⟩
        intro y hy
        have hy' : y ≠ Str.ofString "places" := fun e => hy (by rw [e]; exact .head _)
        simp only [hy', if_false]
      case a7 =>
        rintro i ch tc m₁ o₁ I oI news₁ h14 tk14 hch hi ⟨hm, D, vs, c, hmD, rfl, hvs⟩ hoff hd₁ hF14 hN14
        have hvs2 := Hid.mk hvs
        have hnlT : (tl nm).length = nm.length := tl_length nm
        have hplen := plRun_len ((tl p).take i) (nl := tl nm) (ws := [0]) (Nat.succ_le_succ (Nat.zero_le _))
        have em2 := overs_eq hm
        rw [em2] at hF14
        simp only [overs, hmD] at hF14
        try dsimp only
        walk_at "my steps"
        · rename Fr _ _ _ _ => hF15
          rename News _ _ _ _ => hN15
          refine ne_nil (u3 _) (vs := vs) (News.isList hN15 (.tail _ (.tail _ (.tail _ (.tail _ (.head _)))))) (News.isList hN15 (.head _)) ?_
          try dsimp only
          walk_at "my steps"
          · rename (_ == Str.ofString "*") = true => hs
            rename List.isEmpty vs = true => hne
            rename Fr _ _ _ _ => hF16
            rename News _ _ _ _ => hN16
            rename_i lE _ _ _ hlE _
            have hws : plRun (tl nm) ((tl p).take i) [0] = [] := by
              cases vs with
              | nil => exact List.eq_nil_of_length_eq_zero hvs2.out.length.symm
              | cons a b => cases hne
            refine CellStep.intro [(s1.heap.objs.size + 1, o), (lE, _), (D11, W.listOf vs11.toArray c11)] hF16 (news_cons (hN16 _ (.tail _ (.tail _ (.head _)))) (news_cons (hN16 _ (.tail _ (.tail _ (.tail _ (.head _))))) (news_cons (hN16 _ (.tail _ (.tail _ (.tail _ (.tail _ (.head _)))))) (news_cons (hN16 _ (.head _)) (news_cons (hN16 _ (.tail _ (.tail _ (.tail _ (.tail _ (.tail _ (.tail _ (.head _)))))))) news_nil))))) ?_ hd₁ ⟨?_, lE, _, _, if_pos rfl, rfl, ?_⟩
            · intro q hq
              simp only [List.mem_cons, List.not_mem_nil, or_false] at hq
              rcases hq with rfl | rfl | rfl
              · exact hoff _ (.head _)
              · exact ⟨Ne.symm (Nat.ne_of_lt (ktn_ltOf hlE.2.2 _ (.head _))), Ne.symm (Nat.ne_of_lt hlE.2.1)⟩
              · exact hoff _ (.tail _ (.tail _ (.head _)))
            · intro y hy
              have hy' : y ≠ Str.ofString "places" := fun e => hy (by rw [e]; exact .head _)
              simp only [hy', if_false]
            · rw [pl_next hch, hws, plStep, if_pos (eq_of_beq (star_eq hs))]
              exact .nil
          · rename (_ == Str.ofString "*") = true => hs
            rename List.isEmpty vs = false => hne
            have hne' : 0 < (plRun (tl nm) ((tl p).take i) [0]).length := by
              rw [← hvs2.out.length]
              cases vs with
              | nil => cases hne
              | cons a b => exact Nat.succ_pos _
            rename Fr _ _ _ _ => hF16
            rename News _ _ _ _ => hN16
            refine kso_min hF16 hN16 (News.isList hN16 (.tail _ (.tail _ (.tail _ (.tail _ (.head _)))))) hvs2.out hne' rfl ?_
            intro h17 M17 t17 tk17 hF17 hN17 hM1 hM2
            have hMb := plRun_mem ((tl p).take i) (zero_ok (nl := tl nm)) M17 hM1
            rw [hnlT] at hMb
            try dsimp only
            walk_at "my steps"
            rename IsRange _ _ _ _ _ _ _ _ => hR18
            rename Fr _ _ _ _ => hF18
            rename News _ _ _ _ => hN18
            refine list_range_new (n := (tl nm).length + 1 - M17.toNat) rfl hF18 hN18 hR18 (range_small (by omega) (by omega) (by omega) (by omega)) (by rw [rangeSize_nat]; omega) (by omega) fun h19 tk19 ys19 c19 hF19 hN19 hys19 hne19 => ?_
            try dsimp only
            walk_at "my steps"
            rename Fr _ _ _ _ => hF20
            rename News _ _ _ _ => hN20
            have hhead := asc_head (asc_plRun ((tl p).take i) (List.pairwise_singleton _ _)) hM1 hM2
            refine CellStep.intro [(s1.heap.objs.size + 1, o), (_, W.listOf (List.toArray ys19) c19), (D11, W.listOf vs11.toArray c11)] hF20 (news_cons (hN20 _ (.tail _ (.tail _ (.head _)))) (news_cons (hN20 _ (.tail _ (.tail _ (.tail _ (.head _))))) (news_cons (hN20 _ (.tail _ (.tail _ (.tail _ (.tail _ (.head _)))))) (news_cons (hN20 _ (.head _)) (news_cons (hN20 _ (.tail _ (.tail _ (.tail _ (.tail _ (.tail _ (.tail _ (.head _)))))))) news_nil))))) ?_ hd₁ ⟨?_, _, _, _, if_pos rfl, rfl, ?_⟩
            · intro q hq
              simp only [List.mem_cons, List.not_mem_nil, or_false] at hq
              rcases hq with rfl | rfl | rfl
              · exact hoff _ (.head _)
              · exact ⟨Ne.symm (hne19 (I, oI) (.tail _ (.tail _ (.head _)))), Ne.symm (hne19 (_, o₁) (.tail _ (.head _)))⟩
              · exact hoff _ (.tail _ (.tail _ (.head _)))
            · intro y hy
              have hy' : y ≠ Str.ofString "places" := fun e => hy (by rw [e]; exact .head _)
              simp only [hy', if_false]
            · rw [pl_next hch, plStep, if_pos (eq_of_beq (star_eq hs)), hhead, stepLazy_one]
              exact hys19
        · rename (_ == Str.ofString "*") = false => hs
          rename Fr _ _ _ _ => hF15
          rename News _ _ _ _ => hN15
          refine' asg_ints (h₀ := s1.heap) (fun q => (tl nm)[q.toNat]? == some ch) (fun q => q + 1) rfl ?q1 ?q2 ?q3 ?q4 ?q5 ?q6 ?q7 ?q8 ?_ ?q9
          case q1 => exact rfl
          case q2 => exact rfl
          case q3 => decide
          case q4 => exact rfl
          case q5 => decide +kernel
          case q6 => exact rfl
          case q7 => exact rfl
          case q8 => exact rfl
          case q9 => intro _; rfl
          walk_at "my steps"
          refine ⟨D, vs, plRun (tl nm) ((tl p).take i) [0], _, _, rfl, News.isList hN15 (.tail _ (.tail _ (.tail _ (.head _)))), hvs2.out, by omega, hF15, hN15, ?_, ?_, ?_⟩
          · intro C3 s3 m3 E3 q t3 hq hn3 hx3 hk3
            have hp2 := plRun_mem ((tl p).take i) (zero_ok (nl := tl nm)) q hq
            rw [hnlT] at hp2
            walk_at "my steps"
            refine slice_keep (s := ⟨s3.heap, s3.gens, s3.drawn, s3.toks + 1 + 1, s3.os⟩) (x := nm) (t := u) (i := q) (j := q + 1) (ui := t3) (uj := s3.toks + 1) ?_ ?_ ?_ ?_
            · with_unfolding_all rfl
            · intro _; with_unfolding_all rfl
            · omega
            intro h18 t18 k18 hk18
            try dsimp only at hk18
            have hF18 := fr_keep hF15 fun b o e => hk18 b o (hk3 b o e)
            have hN18 := news_keep hN15 fun b o e => hk18 b o (hk3 b o e)
            try dsimp only
            walk_at "my steps"
            · exact slice_item hp2.1 (by rw [hnlT]; exact hp2.2) ch
            · exact ⟨_, _, rfl, hk18⟩
          · intro C3 s3 m3 E3 q t3 hq hpz hn3 hx3 hk3
            have hp2 := plRun_mem ((tl p).take i) (zero_ok (nl := tl nm)) q hq
            rw [hnlT] at hp2
            walk_at "my steps"
            · exact ⟨_, rfl⟩
            · exact ⟨_, _, rfl, fun _ _ e => e⟩
          · intro D20 h20 tk20 ys20 c20 hF20 hN20 hD20 hys20
            try dsimp only
            walk_at "my steps"
            refine CellStep.intro [(s1.heap.objs.size + 1, o), (D20, W.listOf (List.toArray ys20) c20), (D11, W.listOf vs11.toArray c11)] hF20 (news_cons (hN20 _ (.tail _ (.head _))) (news_cons (hN20 _ (.tail _ (.tail _ (.head _)))) (news_cons (hN20 _ (.tail _ (.tail _ (.tail _ (.head _))))) (news_cons (hN20 _ (.head _)) (news_cons (hN20 _ (.tail _ (.tail _ (.tail _ (.tail _ (.tail _ (.head _))))))) news_nil))))) ?_ hd₁ ⟨?_, _, _, _, if_pos rfl, rfl, ?_⟩
            · intro q hq
              simp only [List.mem_cons, List.not_mem_nil, or_false] at hq
              rcases hq with rfl | rfl | rfl
              · exact hoff _ (.head _)
              · exact ⟨Ne.symm (hD20 (I, oI) (.tail _ (.head _))), Ne.symm (hD20 (_, o₁) (.head _))⟩
              · exact hoff _ (.tail _ (.tail _ (.head _)))
            · intro y hy
              have hy' : y ≠ Str.ofString "places" := fun e => hy (by rw [e]; exact .head _)
              simp only [hy', if_false]
            · rw [pl_next hch, plStep, if_neg (by simpa using star_eq hs)]
              exact hys20
      case a8 =>
        intro h21 tk21 m21 o21 news21 hF21 hN21 hoff21 hd21 hJ21
        obtain ⟨hm, D, vs, c, hmD, rfl, hvs⟩ := hJ21
        rw [← tl_length, List.take_length] at hvs
        have em2 := overs_eq hm
        rw [em2] at hF21
        simp only [overs, hmD] at hF21
        have hvs2 := Hid.mk hvs
        have hv11K := Hid.mk hv11
        try dsimp only
        walk_at "my steps"
        have hplen := plRun_len (tl p) (nl := tl nm) (ws := [0]) (Nat.succ_le_succ (Nat.zero_le _))
        have hnlT : (tl nm).length = nm.length := tl_length nm
        refine kso_sorted hF21 hN21 (News.isList hN21 (.tail _ (.tail _ (.tail _ (.head _))))) hv11K.out (by rw [List.length_reverse]; omega) ?_
        intro D22 vs22 ns22 c22 h22 hF22 hN22 hD22 hvs22 _ hperm hpw _
        obtain rfl : ns22 = plRun (tl nm) (tl p) [0] := sorted_unique (hperm.trans (List.reverse_perm _)) hpw (asc_le (asc_plRun (tl p) (List.pairwise_singleton _ _)))
        clear hperm hpw
        try dsimp only
        walk_at "my steps"
        rename Fr _ _ _ _ => hF23
        rename News _ _ _ _ => hN23
        have hl11 : vs11.length ≤ 64 := by rw [hv11K.out.length, List.length_reverse]; omega
        have hlvs : vs.length ≤ 64 := by rw [hvs2.out.length]; omega
        refine slice_list (s := ⟨_, _, _, _, _⟩) hF23 hN23 (News.isList hN23 (.tail _ (.tail _ (.tail _ (.tail _ (.head _)))))) .none (.int _ _) (hsz := by rw [sizeLine_eq, List.size_toArray]; omega) ?_
        intro h24 hF24 hN24
        try dsimp only
        walk_at "my steps"
        refine slice_list (s := ⟨_, _, _, _, _⟩) hF24 hN24 (News.isList hN24 (.tail _ (.tail _ (.tail _ (.tail _ (.head _)))))) (.int _ _) .none (hsz := by rw [sizeLine_eq, List.size_toArray]; omega) ?_
        intro h25 hF25 hN25
        refine eq_ints_same (u3 _) ⟨_, (hN25 _ (.tail _ (.head _))).1, rfl, _, rfl⟩ ⟨_, (hN25 _ (.head _)).1, rfl, _, rfl⟩ (ns := (plRun (tl nm) (tl p) [0]).drop ((plRun (tl nm) (tl p) [0]).length - 1)) ?_ ?_ ?_
        · rw [← last_first, show (some (1 : Int)) = some ((1 : Nat) : Int) from rfl, slicePick_upto']
          simpa using hv11K.out.take 1
        · rw [show (some (-1 : Int)) = some (-((1 : Nat) : Int)) from rfl, slicePick_last _ _ (Nat.le_refl _), ← hvs2.out.length]
          simpa using hvs2.out.drop (vs.length - 1)
        try dsimp only
        wrow_close
