import PyProof.Rows.All
import Wide.All
import OpenK.AllK
import Wide.FinOn
import Lean
import PySem.Challenge.RW_kn0088_05
open PySem PySem.W PyProof.Rows
set_option Elab.async false
set_option maxRecDepth 100000
namespace Mine
open PySem.Builtin

-- map's facts
theorem slot_map_next : Slot "map" "__next__" "map.__next__" :=
  .of (owner := "map") (n := "__next__") (by rw [typeLookup_type, builtinLookup_eq_fast]; kernel_rfl) (by decide +kernel) (by decide +kernel) (by decide +kernel)
    (by first | exact .inl (by decide +kernel) | exact .inr (by decide +kernel)) (by rw [isSubtype_type]; kernel_rfl)
theorem slot_map_iter : Slot "map" "__iter__" "map.__iter__" :=
  .of (owner := "map") (n := "__iter__") (by rw [typeLookup_type, builtinLookup_eq_fast]; kernel_rfl) (by decide +kernel) (by decide +kernel) (by decide +kernel)
    (by first | exact .inl (by decide +kernel) | exact .inr (by decide +kernel)) (by rw [isSubtype_type]; kernel_rfl)
theorem slot_map_init : Slot "map" "__init__" "object.__init__" :=
  .of (owner := "object") (n := "__init__") (by rw [typeLookup_type, builtinLookup_eq_fast]; kernel_rfl) (by decide +kernel) (by decide +kernel) (by decide +kernel)
    (by first | exact .inl (by decide +kernel) | exact .inr (by decide +kernel)) (by rw [isSubtype_type]; kernel_rfl)
theorem entry_map_next : entryFor table "map.__next__" = some Builtin.«map.__next__» := entryFor_of_tree (by kernel_rfl)
theorem entry_map_new : entryFor table "map.__new__" = some Builtin.«map.__new__» := entryFor_of_tree (by kernel_rfl)
theorem args_map_next_1 (a : Value) : argsOk "map.__next__" ⟨[a], []⟩ := by unfold argsOk; kernel_rfl
theorem args_map_iter_1 (a : Value) : argsOk "map.__iter__" ⟨[a], []⟩ := by unfold argsOk; kernel_rfl
theorem mro_map : mroOf (.type "map") = pure [.type "map", .type "object"] := by rw [mroOf_type]; kernel_rfl
theorem lookup_map_new : typeLookup (.type "map") "__new__" = pure (some (.builtin "map.__new__")) := by rw [typeLookup_type, builtinLookup_eq_fast]; kernel_rfl
theorem sub_map : isSubtype (.type "map") (.type "map") = pure true := by rw [isSubtype_type]; kernel_rfl
theorem called_map : TypeCalled "map" "map.__new__" "object.__init__" :=
  ⟨by decide +kernel, by decide +kernel, ⟨_, _, mro_map⟩, madeBy_type mro_map lookup_map_new (by decide +kernel), by decide +kernel, by rw [isSubtype_type]; kernel_rfl, slot_map_init⟩
theorem typeCall_map_2 (a b : Value) : checkTypeCall "map" ⟨[a, b], []⟩ = pure () := by kernel_rfl
theorem newCall_map_2 (a b : Value) : checkBuiltinCall "map.__new__" ⟨[.type "map", a, b], []⟩ = pure () := by kernel_rfl
theorem map_no_len : typeLookup (.type "map") "__len__" = pure none := by rw [typeLookup_type, builtinLookup_eq_fast]; kernel_rfl
theorem map_no_hint : typeLookup (.type "map") "__length_hint__" = pure none := by rw [typeLookup_type, builtinLookup_eq_fast]; kernel_rfl
theorem entry_map_iter : entryFor table "map.__iter__" = some Builtin.«dict_keyiterator.__iter__» :=
  entryFor_alias (id' := "dict_keyiterator.__iter__") (by kernel_rfl) (by first | rfl | decide +kernel | (unfold String.splitOn; simp +decide [String.splitOnAux])) (by decide +kernel) (by kernel_rfl)
end Mine
namespace Mine
open PySem.Builtin

abbrev IsMap (h : Heap) (e tup : Addr) (f : Value) : Prop :=
  h.get? e = some { cls := .type "map", dict := none, data := .fields #[.ref tup, f], slots := #[] }

section
variable {prog : Program} {w : World} {A : Around} {E : Value → Shared → Prop} {s : Shared}

theorem pyIter_map {e tup : Addr} {f : Value} {Q : Value → Shared → Prop} (he : IsMap s.heap e tup f) (h : Q (.ref e) s) : wpAny (model prog w) A (pyIter (.ref e)) Q E s := by
  have hT : s.TypeIs (.ref e) "map" := ⟨_, he, rfl⟩
  refine wpAny_pyIter_slot hT slot_map_iter (wpAny_call_entry slot_map_iter hT entry_map_iter ?_ (args_map_iter_1 _))
  show wpAny _ _ (ret (.ref e)) _ _ s
  exact wpAny_pure ⟨_, rfl, "map", _, hT, slot_map_next.lookup, h⟩

theorem map_next_item {e tup it l : Addr} {f : Value} {i : Nat} {items : Array Value} {x : Value} {nt : Nat} {Q : Value → Shared → Prop}
    (he : IsMap s.heap e tup f) (ht : s.heap.get? tup = some { cls := .type "tuple", data := .seq #[.ref it] nt }) (hit : s.heap.IsListIter it l i) (hl : s.heap.IsList l items) (hx : items[i]? = some x) (hne : e ≠ it)
    (hf : ∀ h', h'.IsListIter it l (i + 1) → Heap.SameBut it s.heap h' → wpAny (model prog w) A (call f [x]) Q E { s with heap := h' }) :
    wpAny (model prog w) A (Builtin.«map.__next__» ⟨[.ref e], []⟩) (fun fin s' => ∃ v, fin = .done (.ret v) ∧ Q v s') E s := by
  show wpAny _ _ (field (.ref e) 0 >>= _) _ _ _
  refine wpAny_bind (wpAny_field he rfl (x := .ref tup) rfl ?_)
  show wpAny _ _ (seqItems? (.ref tup) >>= _) _ _ _
  refine wpAny_bind (wpAny_seqItems ht rfl ?_)
  dsimp only
  refine wpAny_bind (m := forIn _ _ _) ?_
  simp only [List.forIn_toArray, List.forIn_cons, List.forIn_nil]
  refine wpAny_bind (wpAny_bind (wpAny_holding (wpAny_nextOf_list_item hit hl hx fun h₁ hit₁ hs₁ => ?_)))
  refine wpAny_pure ?_
  dsimp only
  refine wpAny_pure ?_
  have he₁ : IsMap h₁ e tup f := (hs₁.2 e hne).trans he
  refine wpAny_bind (wpAny_field he₁ rfl (x := f) rfl ?_)
  refine wpAny_bind (wpAny_holding (wpAny_mono (hf h₁ hit₁ hs₁) (fun v s' hq => ?_) fun _ _ x => x))
  refine wpAny_bind (wpAny_letGo ?_)
  exact wpAny_pure ⟨v, rfl, hq⟩

theorem pyNext_map_end {e tup it l : Addr} {f : Value} {i : Nat} {items : Array Value} {nt : Nat} {Q : Option Value → Shared → Prop} (hh : A.handled = none)
    (he : IsMap s.heap e tup f) (ht : s.heap.get? tup = some { cls := .type "tuple", data := .seq #[.ref it] nt }) (hit : s.heap.IsListIter it l i) (hl : s.heap.IsList l items) (hx : items[i]? = none)
    (hQ : ∀ h', Heap.ExtBut it s.heap h' → Q none { s with heap := h' }) : wpAny (model prog w) A (pyNext (.ref e)) Q E s := by
  have hT : s.TypeIs (.ref e) "map" := ⟨_, he, rfl⟩
  unfold pyNext
  refine wpAny_bind (wpAny_attempt (wpAny_callSpecial?_slot (name := Str.ofString "__next__") hT slot_map_next
    (wpAny_call_entry slot_map_next hT entry_map_next ?_ (args_map_next_1 _))))
  show wpAny _ _ (field (.ref e) 0 >>= _) _ _ _
  refine wpAny_bind (wpAny_field he rfl (x := .ref tup) rfl ?_)
  show wpAny _ _ (seqItems? (.ref tup) >>= _) _ _ _
  refine wpAny_bind (wpAny_seqItems ht rfl ?_)
  dsimp only
  refine wpAny_bind (m := forIn _ _ _) ?_
  simp only [List.forIn_toArray, List.forIn_cons, List.forIn_nil]
  refine wpAny_bind (wpAny_bind (wpAny_holding (wpAny_nextOf_list_end hh hit hl hx fun h' x he' hx' => ?_)))
  obtain ⟨o, ho, hc⟩ := hx'
  refine wpAny_bind (wpAny_isInstance (T := "StopIteration") (b := true) ⟨o, ho, hc⟩ isSubtype_stop ?_)
  exact wpAny_pure (hQ _ he')

theorem Walks_map1 (hh : A.handled = none) {base : Heap} (e tup it l : Addr) (f : Value) (items : Array Value) (nt : Nat) (P : Nat → Value → Prop)
    (h1 : e ≠ it) (h2 : tup ≠ it) (h3 : l ≠ it) (hb : base.objs.size ≤ it)
    (hf : ∀ i x (s : Shared) (Q : Value → Shared → Prop) (E : Value → Shared → Prop), items[i]? = some x → base.StaysIn s.heap → (∀ v h' tk, P i v → s.heap.StaysIn h' → Q v { s with heap := h', toks := tk }) → wpAny (model prog w) A.in1 (call f [x]) Q E s) :
    Walks prog w A e ([e, tup, it, l] ++ List.range base.objs.size) [it] items.size P
      (fun i h => base.StaysIn h ∧ IsMap h e tup f ∧ h.get? tup = some { cls := .type "tuple", data := .seq #[.ref it] nt } ∧ h.IsListIter it l i ∧ h.IsList l items) where
  sub := fun b hb => by simp at hb; simp [hb]
  frame := fun i h h' ⟨st, a, b, c, d⟩ hk => ⟨fun b o e => hk b (by have := Heap.lt_size e; simp; right; right; right; right; exact this) o (st b o e), hk e (by simp) _ a, hk tup (by simp) _ b, c.at fun o e => hk it (by simp) o e, d.at fun o e => hk l (by simp) o e⟩
  item := fun i s Q E hi ⟨st, he, ht, hit, hl⟩ hQ => by
    have hT : s.TypeIs (.ref e) "map" := ⟨_, he, rfl⟩
    unfold pyNext
    refine wpAny_bind (wpAny_attempt (wpAny_callSpecial?_slot (name := Str.ofString "__next__") hT slot_map_next
      (wpAny_call_entry slot_map_next hT entry_map_next
        (map_next_item he ht hit hl (x := items[i]) (by simp [hi]) h1 fun h' hit' hs' => ?_) (args_map_next_1 _))))
    have ext : ∀ b o, b ≠ it → s.heap.get? b = some o → h'.get? b = some o := fun b o hb e => hs'.extBut b o hb e
    have st' : base.StaysIn h' := fun b o e => ext b o (fun h => absurd (Heap.lt_size e) (by rw [h]; exact Nat.not_lt.mpr hb)) (st b o e)
    refine hf i items[i] _ _ _ (by simp [hi]) st' fun v h'' tk hP hs'' => wpAny_pure ?_
    refine hQ v h'' tk hP ⟨fun b o e => hs'' _ _ (st' b o e), hs'' _ _ (ext e _ h1 he), hs'' _ _ (ext tup _ h2 ht), hit'.at fun o e => hs'' _ _ e, (hl.at fun o e => ext l _ h3 e).at fun o e => hs'' _ _ e⟩ fun b o hb e => hs'' _ _ (ext b o (fun h => hb (by simp [h])) e)
  done := fun s Q E ⟨st, he, ht, hit, hl⟩ hQ => pyNext_map_end hh he ht hit hl (by simp) fun h' he' => hQ h' s.toks fun b o hb e => he' b o (fun h => hb (by simp [h])) e
  self := fun _ _ _ _ ⟨_, he, _⟩ hQ => pyIter_map he hQ

theorem args_object_init_3 (a b c : Value) : argsOk "object.__init__" ⟨[a, b, c], []⟩ := by unfold argsOk; kernel_rfl
theorem meets_map_new (f : Value) (l : Addr) (items : Array Value) :
    Meets (Builtin.«map.__new__» ⟨[.type "map", f, .ref l], []⟩) (fun _ R s => s.heap.IsList l items ∧
      R (.ok (.ret (.ref (s.heap.objs.size + 2))))
        { s with heap := ((s.heap.push { cls := .type "list_iterator", data := .fields #[.ref l, .int 0 0] }).push { cls := .type "tuple", data := .seq #[.ref s.heap.objs.size] }).push { cls := .type "map", data := .fields #[.ref (s.heap.objs.size + 1), f] } }) :=
  .of_wp fun prog w A R s h => by
    obtain ⟨hp, g, d, tk, os⟩ := s; obtain ⟨hl, h⟩ := h
    have hsub := sub_map
    wp_walk using wpAny_pyIter_list hl
    exact ⟨_, rfl, by simpa [Heap.size_push] using h⟩

section
variable {prog : Program} {w : World} {A : Around} {E : Value → Shared → Prop} {s : Shared}
theorem call_map_list {f : Value} {l : Addr} {items : Array Value} {Q : Value → Shared → Prop} (hL : s.heap.IsList l items)
    (h : ∀ h', IsMap h' (s.heap.objs.size + 2) (s.heap.objs.size + 1) f → h'.get? (s.heap.objs.size + 1) = some { cls := .type "tuple", data := .seq #[.ref s.heap.objs.size] } → h'.IsListIter s.heap.objs.size l 0 →
      h'.objs.size = s.heap.objs.size + 3 → (∀ b o, s.heap.get? b = some o → h'.get? b = some o) → Q (.ref (s.heap.objs.size + 2)) { s with heap := h' }) :
    wpAny (model prog w) A (call (.type "map") [f, .ref l]) Q E s := by
  refine callType_new called_map (by decide) (typeCall_map_2 _ _) (newCall_map_2 _ _) (fun obj => args_object_init_3 obj _ _) entry_map_new
    (meets_map_new f l items) ⟨hL, ?_⟩
  have z1 : (s.heap.push { cls := .type "list_iterator", data := .fields #[.ref l, .int 0 0] }).objs.size = s.heap.objs.size + 1 := Heap.size_push ..
  have z2 : ((s.heap.push { cls := .type "list_iterator", data := .fields #[.ref l, .int 0 0] }).push { cls := .type "tuple", data := .seq #[.ref s.heap.objs.size] }).objs.size = s.heap.objs.size + 2 := by rw [Heap.size_push, z1]
  have he : IsMap (((s.heap.push { cls := .type "list_iterator", data := .fields #[.ref l, .int 0 0] }).push { cls := .type "tuple", data := .seq #[.ref s.heap.objs.size] }).push { cls := .type "map", data := .fields #[.ref (s.heap.objs.size + 1), f] }) (s.heap.objs.size + 2) (s.heap.objs.size + 1) f := by
    have := Heap.get?_push_size ((s.heap.push { cls := .type "list_iterator", data := .fields #[.ref l, .int 0 0] }).push { cls := .type "tuple", data := .seq #[.ref s.heap.objs.size] })
      (o := { cls := .type "map", data := .fields #[.ref (s.heap.objs.size + 1), f] }) rfl
    rw [z2] at this; exact this
  have ht : (((s.heap.push { cls := .type "list_iterator", data := .fields #[.ref l, .int 0 0] }).push { cls := .type "tuple", data := .seq #[.ref s.heap.objs.size] }).push { cls := .type "map", data := .fields #[.ref (s.heap.objs.size + 1), f] }).get? (s.heap.objs.size + 1) = some { cls := .type "tuple", data := .seq #[.ref s.heap.objs.size] } := by
    have := Heap.get?_push_size (s.heap.push { cls := .type "list_iterator", data := .fields #[.ref l, .int 0 0] })
      (o := { cls := .type "tuple", data := .seq #[.ref s.heap.objs.size] }) rfl
    rw [z1] at this; exact Heap.get?_push_of_some _ this
  refine ⟨⟨_, he, rfl⟩, h _ he ht ⟨_, Heap.get?_push_of_some _ (Heap.get?_push_of_some _ (Heap.get?_push_size _ rfl)), rfl, rfl⟩ (by rw [Heap.size_push, z2]) fun b o x => Heap.get?_push_of_some _ (Heap.get?_push_of_some _ (Heap.get?_push_of_some _ x))⟩

/-- list(x), x an iterator of a type that has neither a length nor a hint -/
theorem extend_iter {T : String} {R : Result → Shared → Prop} {I : Addr} {fp wr : List Addr} {G : Array GenState → Array GenState → Prop} {n : Nat} {P : Nat → Value → Prop} {St : Nat → Shared → Prop}
    (hlen : typeLookup (.type T) "__len__" = pure none) (hhint : typeLookup (.type T) "__length_hint__" = pure none) (h2 : (Value.type T == Value.type "list") = false) (h3 : (Value.type T == Value.type "tuple") = false)
    (W : WalksS prog w A.in1 I fp wr G n P St) (hT : ∀ i s, St i s → s.TypeIs (.ref I) T) (S : Addr) (res : Value) (c₀ : Nat) (hst : St 0 s) (hSf : S ∉ fp) (hI : I ∈ fp)
    (hS : s.heap.get? S = some { cls := .type "list", data := .seq #[] c₀ })
    (hR : ∀ s' acc' c', Moved (S :: wr) G s s' → s'.heap.get? S = some { cls := .type "list", dict := none, data := .seq acc' c', slots := #[] } → ItemsOf P acc' n → R (.ok (.ret res)) s') (hn : n ≤ sizeLine) :
    wpAny (model prog w) A.in1 (Builtin.List.listExtendWith (.ref S) (.ref I) res)
      (fun fin s' => match fin with | .done f => R (.ok f) s' | .again c' => c'.quiet = true ∧ codeAny (model prog w) A c' R s') (fun e s' => R (.error e) s') s := by
  have hSI : S ≠ I := fun e => hSf (e ▸ hI)
  unfold Builtin.List.listExtendWith
  refine wpAny_bind (wpAny_typeOf (hT 0 _ hst) ?_)
  have h1 : Builtin.List.listSameRef (.ref S) (.ref I) = false := by simp [Builtin.List.listSameRef, hSI]
  simp only [h1, h2, h3, Bool.or_false, Bool.false_eq_true, if_false]
  refine wpAny_bind (W.self 0 _ _ _ hst ?_)
  refine wpAny_bind (wpAny_holding ?_)
  unfold Builtin.List.listLengthHint
  refine wpAny_bind (wpAny_specialOf (hT 0 _ hst) hlen ?_)
  show wpAny _ A.in1 (specialOf (Value.ref I) (Str.ofString "__length_hint__") >>= _) _ _ _
  refine wpAny_bind (wpAny_specialOf (hT 0 _ hst) hhint ?_)
  refine wpAny_pure ?_
  show wpAny _ A.in1 (rule "list.extend.makes-room" >>= fun _ => Builtin.List.listTouch (.ref S) >>= fun _ =>
    again (.builtin "list.extend.loop" ⟨[.ref S, .ref I, res], []⟩)) _ _ _
  refine wpAny_bind (wpAny_rule ?_)
  refine wpAny_bind ?_
  show wpAny _ A.in1 (updateSeq S (·.push .none) >>= fun _ => updateSeq S (·.pop)) _ _ _
  refine wpAny_bind (wpAny_updateSeq hS rfl ?_)
  have hS₂ := Heap.get?_update_self (Obj.mapSeq (·.push Value.none)) hS rfl
  refine wpAny_updateSeq (hz := by seq_fits) hS₂ rfl ?_
  have hS₃ := Heap.get?_update_self (Obj.mapSeq (·.pop)) hS₂ rfl
  have oth : ∀ b o, b ≠ S → s.heap.get? b = some o → ((s.heap.update S (Obj.mapSeq (·.push Value.none))).update S (Obj.mapSeq (·.pop))).get? b = some o :=
    fun b o hb e => (Heap.get?_update_other _ _ (Ne.symm hb)).trans ((Heap.get?_update_other _ _ (Ne.symm hb)).trans e)
  refine wpAny_pure ⟨plainId_quiet F.plain_extend_loop _, codeAny_extend_loopS W hn _ hSf _ n 0 _ _ _ rfl (Nat.zero_le _)
    (W.frame 0 s _ s.toks hst (Nat.le_refl _) fun b hb o e => oth b o (fun h => hSf (h ▸ hb)) e) hS₃ (ItemsOf.nil P) fun s' acc' c' hm hS' hacc => ?_⟩
  exact hR s' acc' c' (Moved.trans W.gtrans ((Moved.refl W.grefl).then_heap (Nat.le_refl _) fun b o hb e => oth b o (fun h => hb (h ▸ List.mem_cons_self)) e) hm) hS' hacc

theorem list_init_iter {T : String} {R : Result → Shared → Prop} {I : Addr} {fp wr : List Addr} {G : Array GenState → Array GenState → Prop} {n : Nat} {P : Nat → Value → Prop} {St : Nat → Shared → Prop}
    (hlen : typeLookup (.type T) "__len__" = pure none) (hhint : typeLookup (.type T) "__length_hint__" = pure none) (h2 : (Value.type T == Value.type "list") = false) (h3 : (Value.type T == Value.type "tuple") = false)
    (W : WalksS prog w A.in1 I fp wr G n P St) (hT : ∀ i s, St i s → s.TypeIs (.ref I) T) (S : Addr) (hst : St 0 s) (hSf : S ∉ fp) (hI : I ∈ fp)
    (hS : s.heap.get? S = some { cls := .type "list", data := .seq #[] })
    (hR : ∀ s' acc' c', Moved (S :: wr) G s s' → s'.heap.get? S = some { cls := .type "list", dict := none, data := .seq acc' c', slots := #[] } → ItemsOf P acc' n → R (.ok (.ret .none)) s') (hn : n ≤ sizeLine) :
    wpAny (model prog w) A.in1 (Builtin.«list.__init__» ⟨[.ref S, .ref I], []⟩)
      (fun fin s' => match fin with | .done f => R (.ok f) s' | .again c' => c'.quiet = true ∧ codeAny (model prog w) A c' R s') (fun e s' => R (.error e) s') s := by
  show wpAny _ A.in1 (do let old ← Builtin.List.listItems (.ref S); Builtin.List.listUpdate (.ref S) (fun _ => #[]); letGo old.toList.reverse; Builtin.List.listExtendWith (.ref S) (.ref I) .none) _ _ s
  refine wpAny_bind ?_
  unfold Builtin.List.listItems
  refine wpAny_bind (wpAny_seqItems hS rfl (wpAny_pure ?_))
  show wpAny _ A.in1 (updateSeq S (fun _ => #[]) >>= fun _ => letGo (#[] : Array Value).toList.reverse >>= fun _ => Builtin.List.listExtendWith (.ref S) (.ref I) .none) _ _ s
  refine wpAny_bind (wpAny_updateSeq hS rfl ?_)
  have hS₂ := Heap.get?_update_self (Obj.mapSeq (fun _ => (#[] : Array Value))) hS rfl
  have oth : ∀ b o, b ≠ S → s.heap.get? b = some o → (s.heap.update S (Obj.mapSeq (fun _ => (#[] : Array Value)))).get? b = some o :=
    fun b o hb e => (Heap.get?_update_other _ _ (Ne.symm hb)).trans e
  refine wpAny_bind (wpAny_letGo ?_)
  refine extend_iter (hn := hn) hlen hhint h2 h3 W hT S .none _ (W.frame 0 s _ s.toks hst (Nat.le_refl _) fun b hb o e => oth b o (fun h => hSf (h ▸ hb)) e) hSf hI hS₂ fun s' acc' c' hm hS' hacc => ?_
  exact hR s' acc' c' (Moved.trans W.gtrans ((Moved.refl W.grefl).then_heap (Nat.le_refl _) fun b o hb e => oth b o (fun h => hb (h ▸ List.mem_cons_self)) e) hm) hS' hacc

theorem call_list_iter {T : String} {I : Addr} {fp wr : List Addr} {n : Nat} {P : Nat → Value → Prop} {St : Nat → Heap → Prop} {Q : Value → Shared → Prop}
    (hlen : typeLookup (.type T) "__len__" = pure none) (hhint : typeLookup (.type T) "__length_hint__" = pure none) (h2 : (Value.type T == Value.type "list") = false) (h3 : (Value.type T == Value.type "tuple") = false)
    (W : Walks prog w A.in1.in1 I fp wr n P St) (hT : ∀ i h, St i h → ∃ o, h.get? I = some o ∧ o.cls = .type T) (hst : St 0 s.heap) (hfp : ∀ b ∈ fp, b < s.heap.objs.size) (hI : I ∈ fp)
    (hQ : ∀ h' tk acc' c', (∀ b o, b ∉ wr → s.heap.get? b = some o → h'.get? b = some o) → h'.get? s.heap.objs.size = some { cls := .type "list", dict := none, data := .seq acc' c', slots := #[] } → ItemsOf P acc' n →
      Q (.ref s.heap.objs.size) { s with heap := h', toks := tk }) (hn : n ≤ sizeLine) :
    wpAny (model prog w) A (call (.type "list") [.ref I]) Q E s := by
  have hSf : s.heap.objs.size ∉ fp := fun hm => Nat.lt_irrefl _ (hfp _ hm)
  refine callType_codes (Q₁ := fun obj s₁ => obj = .ref s.heap.objs.size ∧ s₁ = { s with heap := s.heap.push { cls := .type "list", data := .seq #[] } }) F.called_list (F.typeCall_list_1 _) F.entry_list_init
    (code_list_new _ ⟨rfl, rfl⟩) fun obj s₁ h₁ => ?_
  obtain ⟨rfl, rfl⟩ := h₁
  have hS : (s.heap.push { cls := .type "list", data := .seq #[] }).get? s.heap.objs.size = some { cls := .type "list", data := .seq #[] } := Heap.get?_push_size _ rfl
  refine ⟨⟨_, hS, rfl⟩, F.args_list_init_2 _ _, list_init_iter (hn := hn) hlen hhint h2 h3 W.toS (fun i s st => hT i _ st) _ (W.frame 0 s.heap _ hst fun b _ o e => Heap.get?_push_of_some _ e) hSf hI hS fun s' acc' c' hm hS' hacc => ?_⟩
  refine ⟨rfl, ?_⟩
  rw [Moved.eq_with hm]
  refine hQ s'.heap s'.toks acc' c' (fun b o hb e => hm.heap b o (fun h => ?_) (Heap.get?_push_of_some _ e)) hS' hacc
  rcases List.mem_cons.mp h with h | h
  · exact absurd (Heap.lt_size e) (h ▸ Nat.lt_irrefl _)
  · exact hb h
end
end
end Mine
namespace Mine
open PySem.Builtin

def special (c : Nat) : Bool := [40, 41, 91, 93, 123, 125, 63, 42, 43, 45, 124, 94, 36, 92, 46, 38, 126, 35, 32, 9, 10, 13, 11, 12].contains c
def esc1 (c : Nat) : List Nat := if special c then [92, c] else [c]
def esc (x : Str) : Str := ⟨(x.cps.toList.flatMap esc1).toArray⟩

/-- the table of the special signs lies at d -/
def TransTab (prog : Program) (w : World) (h : Heap) (d : Addr) : Prop :=
  (d == sysModules) = false ∧ ∃ kvs : List (Int × Value), h.DictOf (intKind prog w) d kvs ∧ (∀ c : Nat, special c = true → ∃ t, valueAt kvs (c : Int) = some (.str ⟨#[92, c]⟩ t)) ∧ ∀ c : Nat, special c = false → valueAt kvs (c : Int) = none

theorem TransTab.keep {prog : Program} {w : World} {h h' : Heap} {d : Addr} (T : TransTab prog w h d) (k : h.StaysIn h') : TransTab prog w h' d :=
  let ⟨lo, kvs, hd, r⟩ := T; ⟨lo, kvs, hd.keep k, r⟩

section
variable {prog : Program} {w : World} {A : Around} {E : Value → Shared → Prop} {s : Shared}
theorem tableLookup_yes {d : Addr} {c : Nat} {Q : Str.Mapped → Shared → Prop} (T : TransTab prog w s.heap d) (hc : special c = true)
    (h : ∀ tk, Q (.text ⟨#[92, c]⟩) { s with toks := tk }) : wpAny (model prog w) A (Str.tableLookup (.ref d) c) Q E s := by
  obtain ⟨lo, kvs, hd, hy, hn⟩ := T
  obtain ⟨t, hv⟩ := hy c hc
  unfold Str.tableLookup
  refine wpAny_bind (wpAny_attempt ?_)
  refine wpAny_bind (wpAny_mkInt ?_)
  refine wpAny_getItem_of (intKind_is prog w _ _) hd.mapOf hv ?_
  dsimp only
  refine wpAny_bind (m := asInt? _) (wpAny_pure ?_)
  dsimp only
  refine wpAny_bind (m := asStr? _) (wpAny_pure ?_)
  exact wpAny_pure (h _)

theorem tableLookup_no {d : Addr} {c : Nat} {Q : Str.Mapped → Shared → Prop} (hh : A.handled = none) (T : TransTab prog w s.heap d) (hc : special c = false)
    (h : ∀ h' tk, s.heap.StaysIn h' → Q .keep { s with heap := h', toks := tk }) : wpAny (model prog w) A (Str.tableLookup (.ref d) c) Q E s := by
  obtain ⟨lo, kvs, hd, hy, hn⟩ := T
  unfold Str.tableLookup
  refine wpAny_bind (wpAny_attempt ?_)
  refine wpAny_bind (wpAny_mkInt ?_)
  refine wpAny_getItem_missing_of (intKind_is prog w _ _) lo hh hd.mapOf (hn c hc) fun h' e hx => ?_
  dsimp only
  obtain ⟨ob, t, ho, hcl, _⟩ := hx.there
  refine wpAny_bind (wpAny_isInstance (T := "KeyError") (b := true) ⟨ob, ho, hcl⟩ (by rw [isSubtype_type]; kernel_rfl) ?_)
  refine wpAny_bind (wpAny_rule (wpAny_pure ?_))
  exact h h' _ hx.keeps

def ptxt (ps : List Str) : List Nat := ps.reverse.flatMap (·.cps.toList)
theorem ptxt_cons (p : Str) (ps : List Str) : ptxt (p :: ps) = ptxt ps ++ p.cps.toList := by simp [ptxt]
theorem ptxt_fold (ps : List Str) : ps.reverse.foldl (fun acc p => acc ++ p.cps) #[] = (ptxt ps).toArray := by
  have : ∀ (l : List Str) (a : Array Nat), l.foldl (fun acc p => acc ++ p.cps) a = a ++ (l.flatMap (·.cps.toList)).toArray := by
    intro l
    induction l with
    | nil => intro a; simp
    | cons q l ih => intro a; rw [List.foldl_cons, ih, List.flatMap_cons]; apply Array.ext'; simp [List.append_assoc]
  rw [this]; simp [ptxt]
theorem esc_len_le : ∀ l : List Nat, (l.flatMap esc1).length ≤ 2 * l.length
  | [] => by simp
  | c :: l => by
    have := esc_len_le l
    rw [List.flatMap_cons, List.length_append, List.length_cons]
    have h2 : (esc1 c).length ≤ 2 := by unfold esc1; split <;> simp
    omega
theorem mem_of_lookup' {c : Nat} {a : Option Nat} : ∀ {l : List (Nat × Option Nat)}, l.lookup c = some a → (c, a) ∈ l
  | [], h => by cases h
  | (k, v) :: l, h => by
    rw [List.lookup_cons] at h
    by_cases e : (c == k) = true
    · rw [e] at h; cases h; rw [eq_of_beq e]; exact .head _
    · rw [Bool.not_eq_true] at e; rw [e] at h; exact .tail _ (mem_of_lookup' h)

theorem call_translate {d : Addr} {x : Str} {t : Tok} {Q : Value → Shared → Prop} (hh : A.handled = none) (T : TransTab prog w s.heap d) (hx : x.length ≤ 1000000)
    (h : ∀ h' tk tk', s.heap.StaysIn h' → Q (.str (esc x) tk) { s with heap := h', toks := tk' }) : wpAny (model prog w) A (call (.builtin "str.translate") [.str x t, .ref d]) Q E s := by
  refine wpAny_call_entry F.slot_str_translate (typeIs_str _ _ _) F.entry_str_translate ?_ (F.args_str_translate_2 _ _)
  unfold Builtin.«str.translate»
  obtain ⟨hp, g, dr, tk, os⟩ := s
  wp_walk
  by_cases h0 : (x.length == 0) = true
  · rw [if_pos h0]
    have e0 : esc x = x := by
      have : x.cps = #[] := by have := eq_of_beq h0; exact Array.size_eq_zero_iff.mp this
      obtain ⟨c⟩ := x
      cases this; rfl
    refine wpAny_bind (wpAny_rule ?_)
    refine wpAny_bind (wpAny_pure ?_)
    exact wpAny_pure ⟨_, rfl, e0 ▸ h hp t tk fun _ _ e => e⟩
  rw [if_neg h0]
  dsimp only
  refine wpAny_bind ?_
  refine MeetsSeq2.wpAny_forIn_array _ (fun rest b s' => ∃ pre h' tk', s' = (⟨h', g, dr, tk', os⟩ : Shared) ∧ hp.StaysIn h' ∧ x.cps.toList = pre ++ rest ∧ ptxt b.1 = pre.flatMap esc1 ∧ b.2.1 = (pre.flatMap esc1).length ∧
    (∀ p ∈ b.2.2.2.1, p.2 = some p.1 ∧ special p.1 = false) ∧ b.2.2.2.2 = false) _ ?turn ?fin _ _ ⟨[], hp, tk, rfl, fun _ _ e => e, rfl, rfl, rfl, by simp, rfl⟩
  case fin =>
    rintro ⟨ps, total, fast, known, ad⟩ s' ⟨pre, h', tk', rfl, st, hpre, hps, htot, hk, had⟩
    dsimp only at hps htot hk had ⊢
    rw [List.append_nil] at hpre
    have hl : (pre.flatMap esc1).length ≤ 2 * x.length := by rw [← hpre]; exact esc_len_le _
    rw [if_neg (by simp only [Str.tooLong, decide_eq_true_eq, sizeLine_eq]; omega), ptxt_fold, hps]
    unfold retStr
    refine wpAny_bind (wpAny_mkStr ?_ (by simp only [PySem.Str.length, List.size_toArray, sizeLine_eq]; omega))
    refine wpAny_pure ⟨_, rfl, ?_⟩
    have : (⟨(pre.flatMap esc1).toArray⟩ : Str) = esc x := by rw [esc, hpre]
    rw [this]
    exact h h' _ _ st
  case turn =>
    rintro c rest ⟨ps, total, fast, known, ad⟩ s' ⟨pre, h', tk', rfl, st, hpre, hps, htot, hk, had⟩
    dsimp only at hps htot hk had ⊢
    subst had
    have hl : (pre.flatMap esc1).length ≤ 2 * x.length := by
      have h1 := esc_len_le pre
      have h2 : pre.length ≤ x.length := by show _ ≤ x.cps.size; rw [← Array.length_toList, hpre]; simp
      omega
    rw [if_neg (by simp only [Str.tooLong, decide_eq_true_eq, sizeLine_eq]; omega)]
    have slow : ∀ (R : ForInStep (List Str × Nat × Bool × List (Nat × Option Nat) × Bool) → Shared → Prop) (h₁ : Heap) (tk₁ : Nat) (fast' : Bool), hp.StaysIn h₁ →
      (∀ b s', (∃ pre h' tk', s' = (⟨h', g, dr, tk', os⟩ : Shared) ∧ hp.StaysIn h' ∧ x.cps.toList = pre ++ rest ∧ ptxt b.1 = pre.flatMap esc1 ∧ b.2.1 = (pre.flatMap esc1).length ∧
            (∀ p ∈ b.2.2.2.1, p.2 = some p.1 ∧ special p.1 = false) ∧ b.2.2.2.2 = false) → R (.yield b) s') → wpAny (model prog w) A.in1 (do
        let __do_lift ← Str.tableLookup (Value.ref d) c
        match __do_lift with
          | Str.Mapped.keep => pure (ForInStep.yield ((⟨#[c]⟩ : Str) :: ps, total + 1, fast', known, false))
          | Str.Mapped.drop => pure (ForInStep.yield (ps, total, fast', known, true))
          | Str.Mapped.char d => pure (ForInStep.yield ((⟨#[d]⟩ : Str) :: ps, total + 1, fast', known, false))
          | Str.Mapped.text t => pure (ForInStep.yield (t :: ps, total + t.length, fast', known, false)))
        R E ⟨h₁, g, dr, tk₁, os⟩ := by
      intro R h₁ tk₁ fast' st₁ hR
      cases hc : special c with
      | true =>
        refine wpAny_bind (tableLookup_yes (T.keep st₁) hc fun tk => wpAny_pure ?_)
        refine hR _ _ ⟨pre ++ [c], _, _, rfl, st₁, by rw [hpre]; simp, ?_, ?_, hk, rfl⟩
        · rw [ptxt_cons, hps]; simp [esc1, hc]
        · simp [esc1, hc, htot, PySem.Str.length]
      | false =>
        refine wpAny_bind (tableLookup_no hh (T.keep st₁) hc fun h₂ tk st₂ => wpAny_pure ?_)
        refine hR _ _ ⟨pre ++ [c], _, _, rfl, fun b o e => st₂ b o (st₁ b o e), by rw [hpre]; simp, ?_, ?_, hk, rfl⟩
        · rw [ptxt_cons, hps]; simp [esc1, hc]
        · simp [esc1, hc, htot]
    cases fast with
    | false =>
      simp only [Bool.false_eq_true, if_false]
      exact slow _ h' tk' false st fun _ _ x => x
    | true =>
      simp only [if_true, Bool.false_eq_true, if_false]
      cases hlk : List.lookup c known with
      | some a =>
        obtain ⟨ha, hc⟩ := hk _ (mem_of_lookup' hlk)
        dsimp only at ha hc ⊢
        subst ha
        refine wpAny_bind (wpAny_pure ?_)
        refine wpAny_pure ⟨pre ++ [c], _, _, rfl, st, by rw [hpre]; simp, ?_, ?_, hk, rfl⟩
        · rw [ptxt_cons, hps]; simp [esc1, hc]
        · simp [esc1, hc, htot]
      | none =>
        dsimp only
        cases hc : special c with
        | true =>
          refine wpAny_bind (tableLookup_yes (T.keep st) hc fun tk => ?_)
          dsimp only
          rw [if_neg (by simp [PySem.Str.length])]
          refine wpAny_bind (wpAny_pure ?_)
          refine wpAny_bind (wpAny_rule ?_)
          exact slow _ _ _ false st fun _ _ x => x
        | false =>
          refine wpAny_bind (tableLookup_no hh (T.keep st) hc fun h₂ tk st₂ => ?_)
          dsimp only
          refine wpAny_bind (wpAny_pure ?_)
          refine wpAny_pure ⟨pre ++ [c], _, _, rfl, fun b o e => st₂ b o (st b o e), by rw [hpre]; simp, ?_, ?_, ?_, rfl⟩
          · rw [ptxt_cons, hps]; simp [esc1, hc]
          · simp [esc1, hc, htot]
          · intro p hp'
            rcases List.mem_cons.mp hp' with rfl | hp'
            · exact ⟨rfl, hc⟩
            · exact hk p hp'
end
def entKv (e : DictEntry) : Int × Value := (match e.key with | .int k _ => k | _ => 0, e.val)
def entOk (e : DictEntry) : Bool := match e.key, e.val with
  | .int k _, .str x _ => e.hash == hashInt k && (decide (0 ≤ k) && (special k.toNat && x == ⟨#[92, k.toNat]⟩))
  | _, _ => false
def tabOk (o : Obj) : Bool := o.cls == .type "dict" && (o.dict == none && (o.slots == #[] && match o.data with
  | .dict es _ => es.toList.all entOk && (decide ((es.toList.map entKv).map (·.1)).Nodup && [40, 41, 91, 93, 123, 125, 63, 42, 43, 45, 124, 94, 36, 92, 46, 38, 126, 35, 32, 9, 10, 13, 11, 12].all fun (c : Nat) => (es.toList.map entKv).any fun kv => kv.1 == (c : Int))
  | _ => false))

theorem transTab_of {prog : Program} {w : World} {h : Heap} {d : Addr} {o : Obj} (hd : (d == sysModules) = false) (ho : h.get? d = some o) (hk : tabOk o = true) : TransTab prog w h d := by
  obtain ⟨c, dd, dt, sl⟩ := o
  simp only [tabOk, Bool.and_eq_true] at hk
  obtain ⟨h1, h2, h3, h4⟩ := hk
  cases dt with
  | dict es ep =>
    simp only [Bool.and_eq_true, decide_eq_true_eq, List.all_eq_true] at h4
    obtain ⟨h4, h5, h6⟩ := h4
    have ok : ∀ e ∈ es.toList, ∃ k t u, e.key = .int k t ∧ e.val = .str ⟨#[92, k.toNat]⟩ u ∧ e.hash = hashInt k ∧ 0 ≤ k ∧ special k.toNat = true := by
      intro e he
      have := h4 e he
      unfold entOk at this
      split at this
      · rename_i k t x u e1 e2
        simp only [Bool.and_eq_true, decide_eq_true_eq, beq_iff_eq] at this
        exact ⟨k, t, u, e1, this.2.2.2 ▸ e2, this.1, this.2.1, this.2.2.1⟩
      · cases this
    refine ⟨hd, es.toList.map entKv, ⟨_, es, ep, ho, ⟨eq_of_beq h1, eq_of_beq h2, eq_of_beq h3⟩, rfl, ?_, ?_, h5⟩, ?_, ?_⟩
    · intro e he
      obtain ⟨k, t, u, e1, e2, e3, e4, e5⟩ := ok e (by simpa using he)
      exact ⟨k, by rw [e1]; exact intKind_is prog w k t, e3⟩
    · have : ∀ l : List DictEntry, (∀ e ∈ l, e ∈ es.toList) → Pairs (intKind prog w) l (l.map entKv) := by
        intro l
        induction l with
        | nil => intro _; exact .nil
        | cons e l ih =>
          intro hl
          obtain ⟨k, t, u, e1, e2, e3, e4, e5⟩ := ok e (hl e (.head _))
          refine .cons ?_ rfl (ih fun e' he' => hl e' (.tail _ he'))
          rw [e1]; show (intKind prog w).is (entKv e).1 _ = true
          rw [show (entKv e).1 = k by simp [entKv, e1]]; exact intKind_is prog w k t
      exact this _ fun _ h => h
    · intro c hc
      have hm : c ∈ [40, 41, 91, 93, 123, 125, 63, 42, 43, 45, 124, 94, 36, 92, 46, 38, 126, 35, 32, 9, 10, 13, 11, 12] := by simpa [special] using hc
      have := h6 c hm
      rw [List.any_eq_true] at this
      obtain ⟨kv, hkv, hkc⟩ := this
      unfold valueAt
      cases hf : (es.toList.map entKv).find? (fun kv => decide (kv.1 = (c : Int))) with
      | none => exact absurd (by simpa using hkc) (by simpa using List.find?_eq_none.mp hf kv hkv)
      | some kv' =>
        have hm' := List.mem_of_find?_eq_some hf
        have hc' : kv'.1 = (c : Int) := by simpa using List.find?_some hf
        obtain ⟨e, he, rfl⟩ := List.mem_map.mp hm'
        obtain ⟨k, t, u, e1, e2, e3, e4, e5⟩ := ok e he
        have hk' : k = (c : Int) := by simpa [entKv, e1] using hc'
        subst hk'
        exact ⟨u, by simpa [entKv] using e2⟩
    · intro c hc
      unfold valueAt
      cases hf : (es.toList.map entKv).find? (fun kv => decide (kv.1 = (c : Int))) with
      | none => rfl
      | some kv' =>
        exfalso
        have hm' := List.mem_of_find?_eq_some hf
        have hc' : kv'.1 = (c : Int) := by simpa using List.find?_some hf
        obtain ⟨e, he, rfl⟩ := List.mem_map.mp hm'
        obtain ⟨k, t, u, e1, e2, e3, e4, e5⟩ := ok e he
        have hk' : k = (c : Int) := by simpa [entKv, e1] using hc'
        subst hk'
        simp [hc] at e5
  | _ => cases h4

end Mine
namespace Mine
open PySem.Builtin

/-- what a call is handed: a room, the written part, the top -/
structure Cx (K : Frag) (pv : Program) (lo : List Str) (mean : ExcName → Option Value) (mg mb : Str → Option Value) (A : Around) (h : Heap) (d : Nat) : Prop where
  hh : A.handled = none
  dep : A.depth + d < recursionLimit
  un : A.units + 8 * d < cLine
  K : K.In h
  T : Top pv lo mean mg mb h

section
variable {K : Frag} {pv : Program} {lo : List Str} {mean : ExcName → Option Value} {mg mb : Str → Option Value} {A : Around} {h h' : Heap} {d : Nat}
theorem Cx.keep (C : Cx K pv lo mean mg mb A h d) (k : ∀ b o, h.get? b = some o → h'.get? b = some o) : Cx K pv lo mean mg mb A h' d := ⟨C.hh, C.dep, C.un, C.K.keeps k, C.T.keeps k⟩
theorem Cx.le (C : Cx K pv lo mean mg mb A h d) {e : Nat} (k : e ≤ d) : Cx K pv lo mean mg mb A h e := ⟨C.hh, by have := C.dep; omega, by have := C.un; omega, C.K, C.T⟩
theorem Cx.in1 (C : Cx K pv lo mean mg mb A h (d + 1)) : Cx K pv lo mean mg mb A.in1 h d := ⟨C.hh, by have := C.dep; show A.depth + d < _; omega, by have := C.un; show A.units + 1 + 8 * d < _; omega, C.K, C.T⟩
theorem Cx.deeper (C : Cx K pv lo mean mg mb A h (d + 1)) (env : Env) : Cx K pv lo mean mg mb (A.deeper env) h d := ⟨C.hh, by have := C.dep; show A.depth + 1 + d < _; omega, by have := C.un; show A.units + 3 + 8 * d < _; omega, C.K, C.T⟩

variable {prog : Program} {w : World} {s : Shared}
theorem fn_call {f : Addr} {oc : Value} {od : Option Addr} {osl : Array (Option Value)} {name : Str} {params : Arguments} {body : List Stmt} {scope : Scope} {pm cd doc : Value} {args : List Value} {Q E : Value → Shared → Prop}
    (C : Cx K pv lo mean mg mb A s.heap (d + 1)) (ho : K.lookup f = some ⟨oc, od, .func (Calls.docDef name params body scope pm cd doc), osl⟩) (hcd : codeIn K cd name = true)
    (hbind : bindArgs (Calls.docDef name params body scope pm cd doc) ⟨args, []⟩ = pure ((params.args.map (·.arg)).zip args))
    (hloc : ∀ x ∈ (params.args.map (·.arg)).zip args, scope.names.lookup x.1 = some .local)
    (hb : ∀ L h₁ tk, Fr s.heap L h₁ (fun x => ((params.args.map (·.arg)).zip args).reverse.lookup x) → News s.heap L h₁ [] →
      wpAny (model prog w) (A.deeper (envOf name scope L f cd)) (execs body (envOf name scope L f cd))
        (fun fl s' => Q (match fl with | .ret v => v | _ => .none) s') (fun _ _ => False) { s with heap := h₁, toks := tk })
    (hco : scope.isCoroutine = false := by rfl) (hgen : scope.isGenerator = false := by rfl) (hk : scope.kind = .function := by rfl)
    (hcell : ∀ x ∈ scope.names, x.2 ≠ .cell := by decide) :
    wpAny (model prog w) A (call (.ref f) args) Q E s := by
  refine wpAny_call (call_pos_ret (by have := C.dep; omega) (C.K _ _ ho) rfl C.T.nolimit (codeRec_of C.K hcd) hbind hloc (fun h₁ F => ?_) hco hgen hk hcell)
  exact hb _ _ _ F News.nil

theorem fn_callC {f : Addr} {oc : Value} {od : Option Addr} {osl : Array (Option Value)} {name : Str} {params : Arguments} {body : List Stmt} {scope : Scope} {pm cd doc : Value} {args : List Value} {Q E : Value → Shared → Prop}
    (C : Cx K pv lo mean mg mb A s.heap (d + 1)) (ho : K.lookup f = some ⟨oc, od, .func (Calls.docDef name params body scope pm cd doc), osl⟩) (hcd : codeIn K cd name = true)
    (hbind : bindArgs (Calls.docDef name params body scope pm cd doc) ⟨args, []⟩ = pure ((params.args.map (·.arg)).zip args))
    (hkind : (((params.args.map (·.arg)).zip args).all fun y => scope.names.lookup y.1 == some .local || scope.names.lookup y.1 == some .cell) = true)
    (hnd : ((cellsFrom 0 scope.names []).map (·.1)).Nodup)
    (hb : ∀ L h₁ tk cells, L = s.heap.objs.size → Fr s.heap L h₁ (bindL (envOfC name scope L f cd).kindOf ((params.args.map (·.arg)).zip args) fun _ => none) → News s.heap L h₁ cells →
      CellsAre (bindC (envOfC name scope L f cd).kindOf ((params.args.map (·.arg)).zip args) fun _ => none) (cellsFrom (L + 1) scope.names []) cells →
      wpAny (model prog w) (A.deeper (envOfC name scope L f cd)) (execs body (envOfC name scope L f cd))
        (fun fl s' => Q (match fl with | .ret v => v | _ => .none) s') (fun _ _ => False) { s with heap := h₁, toks := tk })
    (hco : scope.isCoroutine = false := by rfl) (hgen : scope.isGenerator = false := by rfl) (hk : scope.kind = .function := by rfl) :
    wpAny (model prog w) A (call (.ref f) args) Q E s :=
  wpAny_call (call_cellsN_ret (by have := C.dep; omega) (C.K _ _ ho) rfl C.T.nolimit (codeRec_of C.K hcd) hbind (kindsX hkind _) hnd (fun h₁ tk cells F N Y => hb _ h₁ tk cells rfl F N Y) hco hgen hk)
end

section
open PyProof.V PySem.Spec
variable {prog : Program} {w : World} {A : Around} {E : Value → Shared → Prop} {s : Shared} {env : Env} {h₀ : Heap} {x : Str} {body : List Stmt} {Q : Flow → Shared → Prop}

/-- a loop over any iterator, its word by the turn's number -/
theorem iter_anyJ {I : Addr} {fp : List Addr} {n : Nat} {P : Nat → Value → Prop} {St : Nat → Heap → Prop} {m₀ : Str → Option Value} {news : List (Addr × Obj)} (J : Nat → (Str → Option Value) → List (Addr × Obj) → Prop)
    (W : Walks prog w A I fp [I] n P St) (hL : env.locals ∉ fp) (hI : h₀.get? I = none) (hnew : ∀ p ∈ news, p.1 ≠ I) (hst : St 0 s.heap) (hSt : ∀ i h, St i h → @LT.lt Nat _ I h.objs.size)
    (F : Fr h₀ env.locals s.heap m₀) (N : News h₀ env.locals s.heap news) (hj : J 0 m₀ news)
    (turn : ∀ i v m₁ news₁ h tk own, i < n → P i v → J i m₁ news₁ → (∀ p ∈ news₁, p.1 ≠ I) → (∀ p ∈ own, p.1 ∈ fp) → @LT.lt Nat _ I h.objs.size → Fr h₀ env.locals h (fun y => if y = x then some v else m₁ y) → News h₀ env.locals h (news₁ ++ own) →
      wpAny (model prog w) A (execs body env) (LoopStepV h₀ env.locals [I] own (J (i + 1)) { s with heap := h, toks := tk } (fun v s' => Q (.ret v) s') fun s' => Q .next s') E { s with heap := h, toks := tk })
    (done : ∀ m₁ news₁ h tk, J n m₁ news₁ → (∀ p ∈ news₁, p.1 ≠ I) → Fr h₀ env.locals h m₁ → News h₀ env.locals h news₁ → Q .next { s with heap := h, toks := tk }) :
    LoopAtV prog w A h₀ env x body Q E (.ref I) s := by
  refine ⟨I, fp, [I], n, P, St, m₀, news, J, rfl, W, hL, fun b hb => by rw [List.mem_singleton.mp hb]; exact hI, fun p hp hq => hnew p hp (List.mem_singleton.mp hq), hst, F, N, hj, ?_, ?_⟩
  · rintro i v m₁ news₁ s₁ own ⟨h, tk, rfl⟩ hi hP hJ hoff hown hget hback hst' F₁ N₁
    exact turn i v m₁ news₁ h tk own hi hP hJ (fun p hp e => hoff p hp (List.mem_singleton.mpr e)) hown (hSt _ _ hst') F₁ (fun p hp => N₁ p ((List.mem_append.mp hp).elim (List.mem_append_right _) (List.mem_append_left _)))
  · intro h' tk m' news' F' N' hoff hJ
    exact done m' news' h' tk hJ (fun p hp e => hoff p hp (List.mem_singleton.mpr e)) F' N'

theorem iter_rangeJ {r : Addr} {a₀ b₀ : Int} {t₀ u₀ v₀ : Tok} {n : Nat} {m₀ : Str → Option Value} {news : List (Addr × Obj)} (J : Nat → (Str → Option Value) → List (Addr × Obj) → Prop)
    (hh : A.handled = none) (hr : IsRange s.heap r a₀ b₀ 1 t₀ u₀ v₀) (hsmall : Builtin.Range.small a₀ b₀ 1 = true) (hn : Builtin.Range.rangeSize a₀ b₀ 1 = (n : Int)) (F : Fr h₀ env.locals s.heap m₀) (N : News h₀ env.locals s.heap news) (hj : J 0 m₀ news)
    (turn : ∀ i t m₁ news₁ h tk I own, i < n → J i m₁ news₁ → (∀ p ∈ news₁, p.1 ≠ I) → (∀ p ∈ own, p.1 = I) → @LT.lt Nat _ I h.objs.size → Fr h₀ env.locals h (fun y => if y = x then some (.int (a₀ + (i : Int)) t) else m₁ y) → News h₀ env.locals h (news₁ ++ own) →
      wpAny (model prog w) A (execs body env) (LoopStepV h₀ env.locals [I] own (J (i + 1)) { s with heap := h, toks := tk } (fun v s' => Q (.ret v) s') fun s' => Q .next s') E { s with heap := h, toks := tk })
    (done : ∀ m₁ news₁ h tk, J n m₁ news₁ → Fr h₀ env.locals h m₁ → News h₀ env.locals h news₁ → Q .next { s with heap := h, toks := tk }) :
    wpAny (model prog w) A (pyIter (.ref r)) (fun it s₂ => LoopAtV prog w A h₀ env x body Q E it s₂) E s := by
  refine wpAny_pyIter_range hr hsmall ?_
  have W : Walks prog w A s.heap.objs.size [s.heap.objs.size] [s.heap.objs.size] n (fun i v => i < n ∧ ∃ t, v = .int (a₀ + i * 1) t)
      (fun i h => IsRangeIter h s.heap.objs.size (a₀ + (i : Nat) * 1) ((n : Int) - (i : Nat)) 1) := (Walks.range hh _ a₀ 1 n).bound
  refine iter_anyJ J W ?_ (next_is_new F) ?_ (by show IsRangeIter _ _ _ _ _; rw [hn]; simpa using Heap.get?_push_size _ rfl) (fun i h st => Heap.lt_size st) (F.push _) (fun p hp => ⟨Heap.get?_push_of_some _ (N p hp).1, (N p hp).2⟩) hj ?_ ?_
  · intro hm
    exact absurd F.ns.lt ((List.mem_singleton.mp hm) ▸ Nat.lt_irrefl _)
  · intro p hp hI
    exact absurd (Heap.lt_size (N p hp).1) (hI ▸ Nat.lt_irrefl _)
  · rintro i v m₁ news₁ h tk own hi ⟨_, t, rfl⟩ hJ hoff hown hlt F₁ N₁
    rw [Int.mul_one] at F₁
    exact turn i t m₁ news₁ h tk _ own hi hJ hoff (fun p hp => List.mem_singleton.mp (hown p hp)) hlt F₁ N₁
  · intro m₁ news₁ h tk hJ _ F₁ N₁
    exact done m₁ news₁ h tk hJ F₁ N₁
end

theorem item_list {prog : Program} {w : World} {A : Around} {E : Value → Shared → Prop} {s : Shared} {value slice : PySem.Expr} {l : Addr} {vs : List Value} {k : Int} {u : Tok} {v : Value} {Q : Value → Shared → Prop}
    (hl : s.heap.IsList l vs.toArray) (h0 : 0 ≤ k) (hhi : k < 2 ^ 63) (hx : vs[k.toNat]? = some v) (h : Q v s)
    (hs : subscripted slice false (.ref l) (.int k u) = operate [.ref l, .int k u] (getItem (.ref l) (.int k u)) := by with_unfolding_all rfl) :
    wpAny (model prog w) A (subscriptTail value slice (.ref l) (.int k u)) Q E s :=
  tail_any hl.typeIs slot_list_getitem.lookup (wpAny_getItem_list hl h0 hhi (by simpa using hx) h) hs

section
variable {prog : Program} {w : World} {A : Around} {E : Value → Shared → Prop} {s : Shared} {h₀ : Heap} {L D : Addr} {m : Str → Option Value} {rest : List (Addr × Obj)} {vs : List Value} {n : Nat}
theorem set_list {k : Int} {t : Tok} {v : Value} {Q : Unit → Shared → Prop} (F : Fr h₀ L s.heap m) (N : News h₀ L s.heap ((D, W.listOf vs.toArray n) :: rest)) (hr : ∀ p ∈ rest, p.1 ≠ D) (h0 : 0 ≤ k) (hfit : k < 2 ^ 63) (hk : k < vs.length)
    (h : ∀ h', Fr h₀ L h' m → News h₀ L h' ((D, W.listOf (vs.set k.toNat v).toArray n) :: rest) → Q () { s with heap := h' }) : wpAny (model prog w) A (setItem (.ref D) (.int k t) v) Q E s := by
  have z := N (D, W.listOf vs.toArray n) (.head _)
  refine ki_setAt z.1 h0 hfit (by simpa using hk) (h _ (F.change (Heap.SameBut.update ..) z.2.1 z.2.2) (ki_turn (pre := []) (post := rest) (n' := n) _ N (fun _ h => nomatch h) hr ?_ ?_))
  · simp
  · simp
theorem set_list_neg {k : Int} {t : Tok} {v : Value} {Q : Unit → Shared → Prop} (F : Fr h₀ L s.heap m) (N : News h₀ L s.heap ((D, W.listOf vs.toArray n) :: rest)) (hr : ∀ p ∈ rest, p.1 ≠ D) (h0 : k < 0) (hfit : -(2 ^ 63) ≤ k) (hk : -(vs.length : Int) ≤ k)
    (h : ∀ h', Fr h₀ L h' m → News h₀ L h' ((D, W.listOf (vs.set (k + vs.length).toNat v).toArray n) :: rest) → Q () { s with heap := h' }) : wpAny (model prog w) A (setItem (.ref D) (.int k t) v) Q E s := by
  have z := N (D, W.listOf vs.toArray n) (.head _)
  refine ki_setBack z.1 h0 (by simpa using hk) hfit (h _ (F.change (Heap.SameBut.update ..) z.2.1 z.2.2) (ki_turn (pre := []) (post := rest) (n' := n) _ N (fun _ h => nomatch h) hr ?_ ?_))
  · simp
  · simp
end

theorem item_list_neg {prog : Program} {w : World} {A : Around} {E : Value → Shared → Prop} {s : Shared} {value slice : PySem.Expr} {l : Addr} {vs : List Value} {k : Int} {u : Tok} {v : Value} {Q : Value → Shared → Prop}
    (hl : s.heap.IsList l vs.toArray) (h0 : k < 0) (hfit : -(2 ^ 63) ≤ k) (hk : -(vs.length : Int) ≤ k) (hx : vs[(k + vs.length).toNat]? = some v) (h : Q v s)
    (hs : subscripted slice false (.ref l) (.int k u) = operate [.ref l, .int k u] (getItem (.ref l) (.int k u)) := by with_unfolding_all rfl) :
    wpAny (model prog w) A (subscriptTail value slice (.ref l) (.int k u)) Q E s :=
  tail_any hl.typeIs slot_list_getitem.lookup (wpAny_getItem_list_neg hl h0 (by simpa using hk) hfit (by simpa using hx) h) hs
theorem upd_upd (x : Str) (u v : Option Value) (m₀ : Str → Option Value) : (fun y => if y = x then v else (fun y => if y = x then u else m₀ y) y) = fun y => if y = x then v else m₀ y := by
  funext y
  by_cases h : y = x <;> simp [h]
theorem sum_le_mul {l : List Nat} {b : Nat} (h : ∀ x ∈ l, x ≤ b) : l.sum ≤ l.length * b := by
  induction l with
  | nil => simp
  | cons a l ih =>
    have h1 := h a (.head _)
    have h2 := ih fun x hx => h x (.tail _ hx)
    rw [List.sum_cons, List.length_cons, Nat.add_mul, Nat.one_mul]; omega
theorem strsAre_set {vs : List Value} {ss : List Str} (h : StrsAre vs ss) : ∀ (i : Nat) (y : Str) (t : Tok), StrsAre (vs.set i (.str y t)) (ss.set i y) := by
  induction h with
  | nil => intro i y t; exact .nil
  | cons z u _ ih =>
    intro i y t
    cases i with
    | zero => exact .cons _ _ (by assumption)
    | succ i => exact .cons _ _ (ih i y t)

section
variable {prog : Program} {w : World} {A : Around} {E : Value → Shared → Prop} {s : Shared} {h₀ : Heap} {L D : Addr} {m : Str → Option Value} {rest : List (Addr × Obj)} {vs : List Value} {ss : List Str} {n : Nat}
theorem set_strs {k : Int} {t : Tok} {y : Str} {u : Tok} {Q : Unit → Shared → Prop} (hvs : StrsAre vs ss) (F : Fr h₀ L s.heap m) (N : News h₀ L s.heap ((D, W.listOf vs.toArray n) :: rest)) (hr : ∀ p ∈ rest, p.1 ≠ D) (h0 : 0 ≤ k) (hfit : k < 2 ^ 63) (hk : k < ss.length)
    (h : ∀ h' vs', StrsAre vs' (ss.set k.toNat y) → Fr h₀ L h' m → News h₀ L h' ((D, W.listOf vs'.toArray n) :: rest) → Q () { s with heap := h' }) : wpAny (model prog w) A (setItem (.ref D) (.int k t) (.str y u)) Q E s :=
  set_list F N hr h0 hfit (by rw [hvs.length]; exact hk) fun h' F' N' => h h' _ (strsAre_set hvs _ _ _) F' N'
theorem set_strs_neg {k : Int} {t : Tok} {y : Str} {u : Tok} {Q : Unit → Shared → Prop} (hvs : StrsAre vs ss) (F : Fr h₀ L s.heap m) (N : News h₀ L s.heap ((D, W.listOf vs.toArray n) :: rest)) (hr : ∀ p ∈ rest, p.1 ≠ D) (h0 : k < 0) (hfit : -(2 ^ 63) ≤ k) (hk : -(ss.length : Int) ≤ k)
    (h : ∀ h' vs', StrsAre vs' (ss.set (k + ss.length).toNat y) → Fr h₀ L h' m → News h₀ L h' ((D, W.listOf vs'.toArray n) :: rest) → Q () { s with heap := h' }) : wpAny (model prog w) A (setItem (.ref D) (.int k t) (.str y u)) Q E s :=
  set_list_neg F N hr h0 hfit (by rw [hvs.length]; exact hk) fun h' F' N' => h h' _ (by rw [hvs.length]; exact strsAre_set hvs _ _ _) F' N'
end

def Hid (P : Prop) : Prop := P
theorem Hid.mk {P : Prop} (h : P) : Hid P := h
theorem Hid.out {P : Prop} (h : Hid P) : P := h
theorem lookup_cons_if (y a : Str) (v : Value) (l : List (Str × Value)) : List.lookup y ((a, v) :: l) = if y = a then some v else List.lookup y l := by
  rw [List.lookup_cons]
  by_cases h : y = a
  · subst h; simp
  · have : (y == a) = false := by simpa using h
    rw [this, if_neg h]
theorem upd_new (x : Str) (m₀ : Str → Option Value) (h : m₀ x = none) : m₀ = fun y => if y = x then none else m₀ y := by
  funext y
  by_cases e : y = x
  · subst e; simp [h]
  · simp [e]

theorem range_small {a b : Int} (h1 : -1000000 ≤ a) (h2 : a ≤ 1000000) (h3 : -1000000 ≤ b) (h4 : b ≤ 1000000) : Builtin.Range.small a b 1 = true := by
  have fit : ∀ i : Int, -3000000 ≤ i → i ≤ 3000000 → Builtin.Range.rangeFitsLong i = true := by
    intro i h1 h2
    simp only [Builtin.Range.rangeFitsLong, Bool.and_eq_true, decide_eq_true_eq]
    omega
  simp only [Builtin.Range.small, rangeSize_nat, fit a (by omega) (by omega), fit b (by omega) (by omega), fit 1 (by omega) (by omega), fit ((b - a).toNat : Int) (by omega) (by omega), fit (b + (1 - 1)) (by omega) (by omega)]
  simp

def overs (cs : List Str) (u m₀ : Str → Option Value) (y : Str) : Option Value := match cs with
  | [] => m₀ y
  | c :: cs => if y = c then u c else overs cs u m₀ y
theorem overs_eq {cs : List Str} {m₁ m₀ : Str → Option Value} (h : ∀ y, y ∉ cs → m₁ y = m₀ y) : m₁ = overs cs m₁ m₀ := by
  funext y
  have key : ∀ cs' : List Str, (y ∉ cs' → m₁ y = m₀ y) → m₁ y = overs cs' m₁ m₀ y := by
    intro cs'
    induction cs' with
    | nil => intro h; exact h (by simp)
    | cons c cs' ih =>
      intro h
      show _ = if y = c then m₁ c else overs cs' m₁ m₀ y
      by_cases e : y = c
      · rw [if_pos e, e]
      · rw [if_neg e]; exact ih fun hn => h (by simp [e, hn])
  exact key cs (h y)
section
open PyProof.V PySem.Spec
variable {prog : Program} {w : World} {A : Around} {E : Value → Shared → Prop} {s : Shared} {env : Env} {h₀ : Heap} {x : Str} {body : List Stmt} {Q : Flow → Shared → Prop}
theorem iter_rangeK {r : Addr} {a₀ b₀ : Int} {t₀ u₀ v₀ : Tok} {m₀ : Str → Option Value} {news : List (Addr × Obj)} (n : Nat) (cs : List Str) (J : Nat → List (Addr × Obj) → Prop)
    (hh : A.handled = none) (hr : IsRange s.heap r a₀ b₀ 1 t₀ u₀ v₀) (hsmall : Builtin.Range.small a₀ b₀ 1 = true) (hn : Builtin.Range.rangeSize a₀ b₀ 1 = (n : Int)) (F : Fr h₀ env.locals s.heap m₀) (N : News h₀ env.locals s.heap news) (hj : J 0 news)
    (turn : ∀ i t u news₁ h tk I own, i < n → J i news₁ → (∀ p ∈ news₁, p.1 ≠ I) → (∀ p ∈ own, p.1 = I) → @LT.lt Nat _ I h.objs.size → Fr h₀ env.locals h (fun y => if y = x then some (.int (a₀ + (i : Int)) t) else overs cs u m₀ y) → News h₀ env.locals h (news₁ ++ own) →
      wpAny (model prog w) A (execs body env) (LoopStepV h₀ env.locals [I] own (fun m news => (∀ y, y ∉ x :: cs → m y = m₀ y) ∧ J (i + 1) news) { s with heap := h, toks := tk } (fun v s' => Q (.ret v) s') fun s' => Q .next s') E { s with heap := h, toks := tk })
    (done : ∀ u news₁ h tk, J n news₁ → Fr h₀ env.locals h (overs (x :: cs) u m₀) → News h₀ env.locals h news₁ → Q .next { s with heap := h, toks := tk }) :
    wpAny (model prog w) A (pyIter (.ref r)) (fun it s₂ => LoopAtV prog w A h₀ env x body Q E it s₂) E s := by
  refine iter_rangeJ (fun i m news => (∀ y, y ∉ x :: cs → m y = m₀ y) ∧ J i news) hh hr hsmall hn F N ⟨fun _ _ => rfl, hj⟩ ?_ ?_
  · rintro i t m₁ news₁ h tk I own hi ⟨hm, hJ⟩ hoff hown hlt F₁ N₁
    have e : (fun y => if y = x then some (Value.int (a₀ + (i : Int)) t) else m₁ y) = fun y => if y = x then some (Value.int (a₀ + (i : Int)) t) else overs cs m₁ m₀ y := by
      have e1 := overs_eq hm
      funext y
      by_cases hy : y = x
      · simp [hy]
      · simp only [if_neg hy]
        rw [e1]
        show (if y = x then m₁ x else overs cs m₁ m₀ y) = overs cs (overs (x :: cs) m₁ m₀) m₀ y
        rw [if_neg hy, ← e1]
    rw [e] at F₁
    exact turn i t m₁ news₁ h tk I own hi hJ hoff hown hlt F₁ N₁
  · rintro m₁ news₁ h tk ⟨hm, hJ⟩ F₁ N₁
    rw [overs_eq hm] at F₁
    exact done m₁ news₁ h tk hJ F₁ N₁
end
end Mine
namespace Mine
open PySem.Builtin PyProof.V PySem.Spec

theorem intsAre_of_filter {n : Nat} (pz : Nat → Bool) (p : Value → Bool) (hp : ∀ (i : Nat) t, p (.int i t) = pz i) {vs ys : List Value} (hlen : vs.length = n) (hP : ∀ (j : Nat) (v : Value), vs[j]? = some v → ∃ t, v = .int (j : Int) t)
    (hF : Paired (fun v y => y = v) (vs.filter p) ys) : IntsAre ys (((List.range n).filter pz).map fun (i : Nat) => (i : Int)) := by
  have e : ys = vs.filter p := by
    have : ∀ {a b : List Value}, Paired (fun v y => y = v) a b → b = a := by
      intro a b h
      induction h with
      | nil => rfl
      | cons h _ ih => rw [h, ih]
    exact this hF
  subst e
  clear hF
  have key : ∀ (l : List Value) (k : Nat), (∀ (j : Nat) (v : Value), l[j]? = some v → ∃ t, v = .int ((k + j : Nat) : Int) t) → IntsAre (l.filter p) (((List.range' k l.length).filter pz).map fun (i : Nat) => (i : Int)) := by
    intro l
    induction l with
    | nil => intro k _; exact .nil
    | cons v l ih =>
      intro k hl
      obtain ⟨t, rfl⟩ := hl 0 v rfl
      have ih' := ih (k + 1) fun j v hj => by
        obtain ⟨t, e⟩ := hl (j + 1) v (by simpa using hj)
        exact ⟨t, by rw [e, show k + (j + 1) = k + 1 + j by omega]⟩
      rw [List.length_cons, List.range'_succ, List.filter_cons, List.filter_cons]
      have e1 : p (.int ((k + 0 : Nat) : Int) t) = pz k := hp k t
      rw [e1]
      cases pz k with
      | true => exact .cons _ _ ih'
      | false => exact ih'
  have := key vs 0 fun j v hj => by obtain ⟨t, e⟩ := hP j v hj; exact ⟨t, by rw [e, Nat.zero_add]⟩
  rw [hlen, ← List.range_eq_range'] at this
  exact this

section
variable {prog : Program} {w : World} {A : Around} {E : Value → Shared → Prop} {s : Shared} {env : Env} {h₀ : Heap}
/-- [x for x in range(n) if c], stored -/
theorem asg_range_filter {x y : Str} {px py px' : Pos} {iter c : PySem.Expr} {scope : Scope} {cl : List (Str × Addr)} {pos spos : Pos} {Q : Flow → Shared → Prop} (pz : Nat → Bool) (n : Nat)
    (hh : A.handled = none)
    (hsw : swapsWith (.ListComp (.Name x px') [⟨.Name x px, iter, [c], 0⟩] scope pos) (some (.Name y py)) spos.line env = pure true)
    (hclos : closureFor scope env = pure cl) (hcell : ∀ z ∈ scope.names, z.2 ≠ .cell) (hkind : scope.kind = .function)
    (hnames : ∀ z ∈ scope.names, z.2 = .local → scope.names.lookup z.1 = some .local) (hx : scope.names.lookup x = some .local)
    (hy : env.kindOf y = some .local) (hp : (env.scope.kind == .class || (env.scope.kind == .module && env.locals != env.globals)) = false) (hd : (x == ("__debug__" : Str)) = false) (hn : n ≤ 1000000)
    (h : wpAny (model prog w) A (eval iter env) (fun xv s₁ => ∃ r t u v m news, xv = .ref r ∧ IsRange s₁.heap r 0 (n : Int) 1 t u v ∧ Fr h₀ env.locals s₁.heap m ∧ News h₀ env.locals s₁.heap news ∧
      (∀ C s₃ m₃ E' (i : Nat) t, i < n → s₃.heap.Ns C m₃ → m₃ x = some (.int (i : Int) t) → (∀ b o, s₁.heap.get? b = some o → s₃.heap.get? b = some o) →
        wpAny (model prog w) A (isTrue c (compEnvC scope cl C env) (eval c (compEnvC scope cl C env))) (fun ok s₄ => ok = pz i ∧ Keeps s₃ s₄) E' s₃) ∧
      (∀ D h' tk ys c, Fr h₀ env.locals h' (fun z => if z = y then some (.ref D) else m z) → News h₀ env.locals h' ((D, W.listOf (List.toArray ys) c) :: news) → (∀ p ∈ news, p.1 ≠ D) →
        IntsAre ys (((List.range n).filter pz).map fun (i : Nat) => (i : Int)) → Q .next { s₁ with heap := h', toks := tk })) E s)
    (hs : ∀ x, foldedSetIterable iter env x = pure x := by intro _; rfl) :
    wpAny (model prog w) A (exec (.Assign [.Name y py] (.ListComp (.Name x px') [⟨.Name x px, iter, [c], 0⟩] scope pos) spos) env) Q E s := by
  refine wpAny_Assign_ListComp_free (fun v => match v with | .int k _ => pz k.toNat | _ => false) (fun v y => y = v) hsw hclos hcell hkind hnames hx hy hp (wpAny_mono h (fun xv s₁ h₁ => ?_) fun _ _ e => e) hs
  obtain ⟨r, t, u, v, m, news, rfl, hr, F, N, ht, hQ⟩ := h₁
  have hsz : Builtin.Range.rangeSize 0 (n : Int) 1 = (n : Int) := by rw [rangeSize_nat]; omega
  refine wpAny_pyIter_range hr (range_small (by omega) (by omega) (by omega) (by omega)) ?_
  have W : Walks prog w A s₁.heap.objs.size [s₁.heap.objs.size] [s₁.heap.objs.size] n (fun i v => i < n ∧ ∃ t, v = .int (0 + i * 1) t)
      (fun i h => IsRangeIter h s₁.heap.objs.size (0 + (i : Nat) * 1) ((n : Int) - (i : Nat)) 1) := (Walks.range hh _ 0 1 n).bound
  have hLI : env.locals ≠ s₁.heap.objs.size := Nat.ne_of_lt F.ns.lt
  refine ⟨_, _, _, n, _, _, m, rfl, W, by rw [sizeLine_eq]; omega, (by show IsRangeIter _ _ _ _ _; rw [hsz]; simpa using Heap.get?_push_size _ rfl), ?_, ?_, F.ns.push _, ⟨?_, ?_⟩, ?_⟩
  · intro b hb; rw [List.mem_singleton.mp hb, Heap.size_push]; exact Nat.lt_succ_self _
  · intro hm; exact hLI (List.mem_singleton.mp hm)
  · rintro C i v s₃ m₃ E' hC ⟨hi, t', rfl⟩ hn₃ hx₃ hk _
    have e0 : (0 + (i : Int) * 1) = (i : Int) := by omega
    rw [e0] at hx₃ ⊢
    have hk' : ∀ b o, s₁.heap.get? b = some o → s₃.heap.get? b = some o := fun b o e => hk b o (fun hm => absurd (Heap.lt_size e) (by rw [List.mem_singleton.mp hm]; exact Nat.lt_irrefl _)) (Heap.get?_push_of_some _ e)
    refine wpAny_tests_one (wpAny_mono (ht C s₃ m₃ E' i t' hi hn₃ hx₃ hk') (fun ok s₄ hq => ⟨?_, hq.2⟩) fun _ _ e => e)
    rw [hq.1]; show pz i = pz (i : Int).toNat; rw [Int.toNat_natCast]
  · rintro C i v s₃ m₃ E' hC _ _ hn₃ hx₃ hk _
    have hkd : (compEnvC scope cl C env).kindOf x = some .local := lookup_relabel_local hx
    have hk3 : (compEnvC scope cl C env).scope.kind = .function := by simp [compEnvC, relabel, hkind]
    exact wpAny_Name (wpAny_loadName_local hk3 hkd hn₃ hx₃ ⟨rfl, ⟨s₃.heap, s₃.toks, rfl, fun _ _ e => e⟩⟩) hd
  · intro D h' tk ys vs hD hl hpl hlen hP hF hns hk
    obtain ⟨c, hpl⟩ := hpl
    have hk' : ∀ b o, b ≠ env.locals → s₁.heap.get? b = some o → h'.get? b = some o := fun b o hb e => hk b o hb (fun hm => absurd (Heap.lt_size e) (by rw [List.mem_singleton.mp hm]; exact Nat.lt_irrefl _)) (Heap.get?_push_of_some _ e)
    have hold : ∀ b o, s₁.heap.get? b = some o → b ≠ D := fun b o e hb => by
      have := Heap.get?_push_of_some { cls := .type "range_iterator", data := .fields #[rawInt 0, rawInt (Builtin.Range.rangeSize 0 (n : Int) 1), rawInt 1] } e
      rw [hb] at this
      rw [show (s₁.heap.push { cls := .type "range_iterator", data := .fields #[rawInt 0, rawInt (Builtin.Range.rangeSize 0 (n : Int) 1), rawInt 1] }).get? D = none from hD] at this
      cases this
    have hDL : D ≠ env.locals := fun e => by
      obtain ⟨oL, _, _, hoL, _⟩ := F.ns
      exact hold _ _ hoL e.symm
    have F' : Fr h₀ env.locals h' (fun z => if z = y then some (.ref D) else m z) := ⟨hns, fun b o e => hk' b o (Nat.ne_of_lt (Nat.lt_of_lt_of_le (Heap.lt_size e) F.above)) (F.keep b o e), F.above⟩
    refine hQ D h' tk ys.toList c F' ?_ (fun p hp e => hold _ _ (N p hp).1 e) (intsAre_of_filter pz _ (fun i t => by show pz (i : Int).toNat = pz i; rw [Int.toNat_natCast]) hlen (fun j v hj => by obtain ⟨_, t, e⟩ := hP j v hj; exact ⟨t, by rw [e]; congr 1; omega⟩) hF)
    intro p hp
    rcases List.mem_cons.mp hp with rfl | hp
    · refine ⟨hpl, hDL, ?_⟩
      cases q : h₀.get? D with
      | none => rfl
      | some o => exact absurd rfl (hold _ _ (F.keep _ _ q))
    · exact ⟨hk' _ _ (N p hp).2.1 (N p hp).1, (N p hp).2⟩
end
end Mine
namespace Mine
open PySem.Builtin
section
variable {K : Frag} {pv : Program} {lo : List Str} {mean : ExcName → Option Value} {mg mb : Str → Option Value} {A : Around} {h h' : Heap} {d : Nat}
theorem Cx.make (C : Cx K pv lo mean mg mb A h (d + 1)) (c : Addr) (vals : List Value) : Cx K pv lo mean mg mb (A.under (.builtin "type.__call__" ⟨.ref c :: vals, []⟩)) h d :=
  ⟨C.hh, by rw [depth_under_make]; have := C.dep; omega, by rw [units_under_make]; have := C.un; omega, C.K, C.T⟩
variable {prog : Program} {w : World} {s : Shared}
theorem fn_code {f : Addr} {oc : Value} {od : Option Addr} {osl : Array (Option Value)} {name qual : Str} {params : Arguments} {body : List Stmt} {scope : Scope} {dV kV doc pm cdv ct : Value} {an : Option Addr} {args : Args} {binds : List (Str × Value)} {R : Result → Shared → Prop}
    (C : Cx K pv lo mean mg mb A s.heap (d + 1)) (ho : K.lookup f = some ⟨oc, od, .func (fnOf name qual params body scope dV kV doc pm an cdv ct), osl⟩) (hcd : codeIn K cdv qual = true)
    (hbind : BindsTo s (fnOf name qual params body scope dV kV doc pm an cdv ct) args binds) (hloc : ∀ y ∈ binds, scope.names.lookup y.1 = some .local)
    (hb : ∀ L h₁, L = s.heap.objs.size → Fr s.heap L h₁ (fun y => binds.reverse.lookup y) → News s.heap L h₁ [] →
      wpAny (model prog w) (A.deeper (envOf qual scope L f cdv)) (execs body (envOf qual scope L f cdv))
        (fun fl s' => R (.ok (.ret (match fl with | .ret v => v | _ => .none))) s') (fun _ _ => False) { s with heap := h₁, toks := s.toks + binds.length })
    (hco : scope.isCoroutine = false := by rfl) (hgen : scope.isGenerator = false := by rfl) (hk : scope.kind = .function := by rfl)
    (hcell : ∀ x ∈ scope.names, x.2 ≠ .cell := by decide) : codeAny (model prog w) A (.call (.ref f) args) R s := by
  refine codeAny_call_def (fd := fnOf name qual params body scope dV kV doc pm an cdv ct) (body := body) (binds := binds) (by have := C.dep; omega) (C.K _ _ ho) rfl C.T.nolimit (codeRec_of C.K hcd) rfl hbind hcell hloc (fun h₁ hns hk₁ => ?_) hco hgen hk
  have F : Fr s.heap s.heap.objs.size h₁ (fun y => binds.reverse.lookup y) := ⟨hns, hk₁, Nat.le_refl _⟩
  exact wpAny_mono (hb _ h₁ rfl F News.nil) (fun _ _ x => x) fun _ _ x => x.elim
end
end Mine
namespace Mine
open PySem.Builtin PySem.Spec

/-- the first i of the texts, as a set -/
def among (ss : List Str) (i : Nat) (k : Str) : Bool := (ss.take i).any fun a => decide (k = a)
theorem among_zero (ss : List Str) : among ss 0 = fun _ => false := rfl
theorem among_succ {ss : List Str} {i : Nat} {x : Str} (h : ss[i]? = some x) : among ss (i + 1) = fun k => among ss i k || decide (k = x) := by
  funext k
  unfold among
  rw [List.take_add_one, h, List.any_append]
  simp
theorem among_all (ss : List Str) : among ss ss.length = fun k => ss.any fun a => decide (k = a) := by
  funext k; unfold among; rw [List.take_length]

section
variable {prog : Program} {w : World} {A : Around} {R : Result → Shared → Prop} {I : Addr} {fp wr : List Addr} {G : Array GenState → Array GenState → Prop} {n : Nat} {P : Nat → Value → Prop} {St : Nat → Shared → Prop}

theorem update_strs (W : WalksS prog w A.in1 I fp wr G n P St) (S : Addr) (hSf : S ∉ fp) (ss : List Str) (hval : ∀ i v, P i v → ∃ x t, ss[i]? = some x ∧ v = .str x t) (hb : n + 1 < scanBound) :
    ∀ (k i : Nat) (s : Shared), n - i = k → i ≤ n → St i s → (∃ c, c ≤ i ∧ s.heap.SetOf (strKind prog w) S (among ss i) c) →
      (∀ s', Moved (S :: wr) G s s' → (∃ c, c ≤ n ∧ s'.heap.SetOf (strKind prog w) S (among ss n) c) → R (.ok (.ret .none)) s') →
      codeAny (model prog w) A (.builtin "set.update.loop" ⟨[.ref S, .ref I], []⟩) R s := by
  have hSw : S ∉ wr := fun h => hSf (W.sub _ h)
  have hsub : ∀ b ∈ wr, b ∈ S :: wr := fun b hb => List.mem_cons_of_mem _ hb
  intro k
  induction k with
  | zero =>
    intro i s hk hi hst hS hR
    obtain rfl : i = n := by omega
    refine codeAny_builtin F.entry_set_update_loop ?_
    rw [Around.under_plainId F.plain_set_update_loop _]
    show wpAny _ A.in1 (pyNext (.ref I) >>= _) _ _ s
    refine wpAny_bind (W.done s _ _ hst fun s' hm => ?_)
    show wpAny _ A.in1 (ret Value.none) _ _ s'
    refine wpAny_pure (hR s' (hm.mono hsub) ?_)
    obtain ⟨c, hc, o, es, ep, t, ho, rest⟩ := hS
    exact ⟨c, hc, o, es, ep, t, hm.heap S _ hSw ho, rest⟩
  | succ k ih =>
    intro i s hk hi hst hS hR
    have hlt : i < n := by omega
    refine codeAny_builtin F.entry_set_update_loop ?_
    rw [Around.under_plainId F.plain_set_update_loop _]
    show wpAny _ A.in1 (pyNext (.ref I) >>= _) _ _ s
    refine wpAny_bind (W.item i s _ _ hlt hst fun v s' hP hst' hm => ?_)
    obtain ⟨x, t, hx, rfl⟩ := hval i v hP
    obtain ⟨c, hc, o, es, ep, tb, ho, rest⟩ := hS
    have hS' : s'.heap.SetOf (strKind prog w) S (among ss i) c := ⟨o, es, ep, tb, hm.heap S _ hSw ho, rest⟩
    show wpAny _ A.in1 (holding [Value.str x t] (setAdd S (.str x t)) >>= _) _ _ s'
    refine wpAny_bind (wpAny_holding ?_)
    unfold setAdd
    refine wpAny_holding ?_
    have hk : (strKind prog w).is x (.str x t) = true := by show Value.isStrOf x (.str x t) = true; simp [Value.isStrOf]
    refine wpAny_bind ((strKind prog w).pyHash (k := x) hk ?_)
    refine wpAny_setAddHashed_of (knd := strKind prog w) (s := { s' with toks := s'.toks + 1 }) hk rfl hS' (by omega) fun h' hsb hS2 => ?_
    rw [← among_succ hx] at hS2
    refine wpAny_pure ⟨plainId_quiet F.plain_set_update_loop _, ih (i + 1) _ (by omega) hlt (W.frame _ s' _ _ hst' (Nat.le_succ _) fun b hb o e => ?_) ⟨_, ?_, hS2⟩ fun s'' hm'' hS'' => ?_⟩
    · rw [hsb.2 b (fun h : b = S => hSf (by rw [← h]; exact hb))]; exact e
    · split <;> omega
    · refine hR s'' (Moved.trans W.gtrans ((hm.mono hsub).then_heap (Nat.le_succ _) fun b o hb e => ?_) hm'') hS''
      rw [hsb.2 b (fun h : b = S => hb (by rw [h]; exact List.mem_cons_self))]; exact e
end

section
variable {prog : Program} {w : World} {A : Around} {E : Value → Shared → Prop} {s : Shared}
set_option maxHeartbeats 3200000 in
/-- set(a list of texts) -/
theorem call_set_strs {l : Addr} {vs : List Value} {ss : List Str} {Q : Value → Shared → Prop}
    (hh : A.handled = none) (hl : s.heap.IsList l vs.toArray) (hi : StrsAre vs ss) (hb : ss.length + 1 < scanBound)
    (h : ∀ (h' : Heap) (tk n : Nat), h'.SetOf (strKind prog w) s.heap.objs.size (fun k => ss.any fun a => decide (k = a)) n →
      (∀ b o, s.heap.get? b = some o → h'.get? b = some o) → Q (.ref s.heap.objs.size) { s with heap := h', toks := tk }) :
    wpAny (model prog w) A (call (.type "set") [.ref l]) Q E s := by
  have hvl : vs.toArray.size = ss.length := by rw [List.size_toArray, hi.length]
  obtain ⟨c, tl, hmro⟩ := F.called_set.mro
  have hmade := F.called_set.made
  have hsub := F.called_set.sub
  refine wpAny_call (codeAny_of_tree ?_)
  show wpAny _ _ (callAny (.type "set") _) _ _ _
  refine wpAny_pure ⟨Code.quiet_builtin _ (by decide +kernel), codeAny_builtin F.entry_type_call ?_⟩
  rw [Around.under_plain (weight_type_call_type "set" [.ref l] []) rfl]
  have h1 := F.called_set.notType
  have h2 := F.called_set.canCreate
  have hct := F.typeCall_set_1 (.ref l)
  repeat (any_goals (first | assumption | wp_step))
  refine codeAny_mono (code_set_new_1 (.ref l) (E := E) (Q₁ := fun obj s₁ => ∃ led : Bool, obj = .ref s.heap.objs.size ∧ s₁ = { s with heap := s.heap.push { cls := .type "set", dict := none, data := .set #[] 0 (.fresh 0 0 led) } }) fun led => ⟨led, rfl, rfl⟩) fun r s₁ hr => ?_
  cases r with
  | error e => exact hr
  | ok fl =>
    cases fl with
    | ret obj =>
      obtain ⟨led, rfl, rfl⟩ := hr
      have hS : (s.heap.push { cls := .type "set", dict := none, data := .set #[] 0 (.fresh 0 0 led) }).get? s.heap.objs.size = some { cls := .type "set", dict := none, data := .set #[] 0 (.fresh 0 0 led) } := Heap.get?_push_size _ rfl
      have hT : Shared.TypeIs { s with heap := s.heap.push { cls := .type "set", dict := none, data := .set #[] 0 (.fresh 0 0 led) } } (.ref s.heap.objs.size) "set" := ⟨_, hS, rfl⟩
      have hli := F.called_set.init.lookup
      have hbi := F.called_set.init.bind (.ref s.heap.objs.size)
      repeat (any_goals (first | assumption | wp_step))
      refine codeAny_mono (codeAny_call_builtin (R := wants (fun r s₂ => r = .none ∧ ∃ h' tk n, s₂ = { s with heap := h', toks := tk } ∧
          h'.SetOf (strKind prog w) s.heap.objs.size (fun k => ss.any fun a => decide (k = a)) n ∧
          (∀ b o, s.heap.get? b = some o → h'.get? b = some o)) E) F.called_set.init.plain F.entry_set_init (check_set_init_1 hT ?_)) fun r₂ s₂ hr₂ => ?_
      · obtain ⟨ol, hol, hcl, nl, hdl⟩ := hl
        obtain ⟨ocls, odict, odata, oslots⟩ := ol
        simp only at hcl hdl
        subst hcl; subst hdl
        have hol' : (s.heap.push { cls := .type "set", dict := none, data := .set #[] 0 (.fresh 0 0 led) }).get? l = some { cls := .type "list", dict := odict, data := .seq vs.toArray nl, slots := oslots } := Heap.get?_push_of_some _ hol
        have hsls := F.sub_list_set
        have hslf := F.sub_list_frozenset
        have hne : (Value.type "list" == Value.type "dict") = false := by decide
        have hl1 : (s.heap.push { cls := .type "set", dict := none, data := .set #[] 0 (.fresh 0 0 led) }).IsList l vs.toArray := ⟨_, hol', rfl, nl, rfl⟩
        unfold Builtin.«set.__init__» noKeywords Builtin.Frozenset.updateFrom
        generalize hPI : pyIter = PI
        wp_walk
        subst hPI
        refine wpAny_pyIter_list hl1 ?_
        refine wpAny_bind (wpAny_runValue ?_)
        have hlS : l < s.heap.objs.size := Heap.lt_size hol
        have hh3 : A.in1.in1.in1.handled = none := by simp [hh]
        have hneI : l ≠ (s.heap.push { cls := .type "set", dict := none, data := .set #[] 0 (.fresh 0 0 led) }).objs.size := by
          rw [Heap.size_push]; exact Nat.ne_of_lt (Nat.lt_succ_of_lt hlS)
        have hSf : s.heap.objs.size ∉ [(s.heap.push { cls := .type "set", dict := none, data := .set #[] 0 (.fresh 0 0 led) }).objs.size, l] := by
          rw [Heap.size_push]; simp only [List.mem_cons, List.not_mem_nil, or_false, not_or]
          exact ⟨Nat.ne_of_lt (Nat.lt_succ_self _), Nat.ne_of_gt hlS⟩
        have hval : ∀ (i : Nat) (v : Value), vs.toArray[i]? = some v → ∃ x t, ss[i]? = some x ∧ v = .str x t := fun i v hv => by
          have hv' : vs[i]? = some v := by simpa using hv
          have hlt : i < ss.length := by rw [← hi.length]; exact (List.getElem?_eq_some_iff.mp hv').1
          obtain ⟨t, e⟩ := hi.get i ss[i] (List.getElem?_eq_getElem hlt)
          rw [hv'] at e
          exact ⟨_, t, List.getElem?_eq_getElem hlt, Option.some.inj e⟩
        refine update_strs ((Walks.list hh3 _ l hneI vs.toArray).toS) s.heap.objs.size hSf ss hval (by rw [hvl]; exact hb) (vs.toArray.size - 0) 0 _ (by omega) (Nat.zero_le _)
          ⟨⟨_, Heap.get?_push_size _ rfl, rfl, rfl⟩, (hl1.push _)⟩ ?hS0 ?hR
        case hS0 =>
          have hget : ((s.heap.push { cls := .type "set", dict := none, data := .set #[] 0 (.fresh 0 0 led) }).push { cls := .type "list_iterator", data := .fields #[.ref l, .int 0 0] }).get? s.heap.objs.size
              = some { cls := .type "set", dict := none, data := .set #[] 0 (.fresh 0 0 led) } := Heap.get?_push_of_some _ hS
          exact ⟨0, Nat.le_refl _, SetOf_congr ((setObjOf_fresh (knd := strKind prog w) led).setOf hget (by unfold scanBound; omega)) (fun _ => rfl) rfl⟩
        case hR =>
          intro s' hm hS'
          obtain ⟨h', g', d', tk', os'⟩ := s'
          have eg : g' = s.gens := hm.gens
          have ed : d' = s.drawn := hm.drawn
          have eo : os' = s.os := hm.os
          subst eg; subst ed; subst eo
          obtain ⟨n', _, hS'⟩ := hS'
          rw [hvl, among_all] at hS'
          show wpAny _ _ _ _ _ _
          refine wpAny_pure ?_
          show wpAny _ _ (ret Value.none) _ _ _
          refine wpAny_pure ⟨rfl, h', tk', n', rfl, hS', fun b o e => ?_⟩
          have hb : b < s.heap.objs.size := Heap.lt_size e
          have hb1 : b ≠ s.heap.objs.size := Nat.ne_of_lt hb
          have hb2 : b ≠ (s.heap.push { cls := .type "set", dict := none, data := .set #[] 0 (.fresh 0 0 led) }).objs.size := by
            rw [Heap.size_push]; exact Nat.ne_of_lt (Nat.lt_succ_of_lt hb)
          exact hm.heap b o (by simp only [List.mem_cons, List.not_mem_nil, or_false, not_or]; exact ⟨hb1, hb2⟩) (Heap.get?_push_of_some _ (Heap.get?_push_of_some _ e))
      · cases r₂ with
        | error e => exact hr₂
        | ok fl₂ =>
          cases fl₂ with
          | ret r =>
            obtain ⟨rfl, h', tk, n', rfl, hS', hk'⟩ := hr₂
            repeat (any_goals (first | assumption | wp_step))
            exact h _ _ _ hS' hk'
          | _ => exact hr₂.elim
    | _ => exact hr.elim

/-- the set's own test, called as a plain function of two -/
theorem call_set_contains {a : Addr} {S : Str → Bool} {n : Nat} {k : Str} {t : Tok} {Q : Value → Shared → Prop} (hS : s.heap.SetOf (strKind prog w) a S n)
    (h : Q (.bool (S k)) { s with toks := s.toks + 1 }) : wpAny (model prog w) A (call (.builtin "set.__contains__") [.ref a, .str k t]) Q E s := by
  have hkey : (strKind prog w).is k (.str k t) = true := by show Value.isStrOf k (.str k t) = true; simp [Value.isStrOf]
  refine wpAny_call_entry F.slot_set_contains hS.typeIs entry_set_contains ?_ (F.args_set_contains_2 _ _)
  unfold Builtin.«frozenset.__contains__» Builtin.Frozenset.oneOther
  simp only [List.isEmpty_nil, bind_assoc]
  unfold Builtin.Frozenset.addrOf Builtin.Frozenset.withSetAsKey setContains
  refine wpAny_bind (wpAny_pure ?_)
  try dsimp only
  refine wpAny_bind (wpAny_pure ?_)
  try dsimp only
  refine wpAny_bind (wpAny_tryCatch ?_)
  refine wpAny_holding ?_
  refine wpAny_bind ((strKind prog w).pyHash hkey ?_)
  refine wpAny_bind (wpAny_setFind_of (s := { s with toks := s.toks + 1 }) hkey rfl hS fun r hr => ?_)
  refine wpAny_pure ?_
  show wpAny _ _ (ret (Value.bool r.isSome)) _ _ _
  rw [hr]
  exact wpAny_pure ⟨_, rfl, h⟩
end
end Mine
namespace Mine
open PySem.Builtin PySem.Spec

theorem slot_md_get : Slot "method_descriptor" "__get__" "method_descriptor.__get__" :=
  .of (owner := "method_descriptor") (n := "__get__") (by rw [typeLookup_type, builtinLookup_eq_fast]; kernel_rfl) (by decide +kernel) (by decide +kernel) (by decide +kernel)
    (by first | exact .inl (by decide +kernel) | exact .inr (by decide +kernel)) (by rw [isSubtype_type]; kernel_rfl)
theorem md_no_set : typeLookup (.type "method_descriptor") "__set__" = pure none := by rw [typeLookup_type, builtinLookup_eq_fast]; kernel_rfl
theorem md_no_delete : typeLookup (.type "method_descriptor") "__delete__" = pure none := by rw [typeLookup_type, builtinLookup_eq_fast]; kernel_rfl
theorem entry_md_get : entryFor table "method_descriptor.__get__" = some Builtin.«method_descriptor.__get__» := entryFor_of_tree (by kernel_rfl)
theorem args_md_get (a b c : Value) : argsOk "method_descriptor.__get__" ⟨[a, b, c], []⟩ := by unfold argsOk; kernel_rfl
theorem told_no : Manifest.toldItsClass.contains "set.__contains__" = false := by decide +kernel
theorem sub_set_owner : isSubtype (.type "set") (.type (".".intercalate ("set.__contains__".cutAt '.').dropLast)) = pure true := by
  have e : ".".intercalate ("set.__contains__".cutAt '.').dropLast = "set" := by decide +kernel
  rw [e, isSubtype_type]; kernel_rfl

section
variable {prog : Program} {w : World} {A : Around} {E : Value → Shared → Prop} {h : Heap} {g : Array GenState} {d : Drawn} {t : Nat} {os : OsState} {a : Addr} {o : Obj}
abbrev bound (a : Addr) : Obj := { cls := .type "builtin_function_or_method", data := .fields #[.builtin "set.__contains__", .ref a] }

set_option maxHeartbeats 4000000 in
theorem md_get_set {R : Result → Shared → Prop} (hx : h.get? a = some o) (hc : o.cls = .type "set") (hq : R (.ok (.ret (.ref h.objs.size))) ⟨h.push (bound a), g, d, t, os⟩) :
    codeAny (model prog w) A (.call (.builtin "method_descriptor.__get__") ⟨[.builtin "set.__contains__", .ref a, .type "set"], []⟩) R ⟨h, g, d, t, os⟩ := by
  have hT : (⟨h, g, d, t, os⟩ : Shared).TypeIs (.ref a) "set" := ⟨_, hx, hc⟩
  have hT5 : (⟨h, g, d, t, os⟩ : Shared).TypeIs (.builtin "set.__contains__") "method_descriptor" := F.type_set_contains
  have f8 := sub_set_owner
  have f9 := told_no
  refine codeAny_call_builtin slot_md_get.plain entry_md_get (slot_md_get.check _ _ _ _ _ _ _ _ hT5 (args_md_get _ _ _) ?_)
  iterate 12 (first | assumption | wp_step)
  refine wpAny_bind ?_
  with_unfolding_all refine wpAny_bind (m := pure _) (wpAny_pure ?_)
  try dsimp only
  refine wpAny_bind (wpAny_isInstance hT f8 ?_)
  try dsimp only
  rw [if_neg (by decide)]
  refine wpAny_pure ?_
  refine wpAny_bind ?_
  unfold newFields newObj
  refine wpAny_bind (wpAny_alloc (wpAny_pure ?_))
  exact wpAny_pure hq

set_option maxHeartbeats 4000000 in
theorem ga_entry {tk : Tok} {Q : Fin → Shared → Prop} (hx : h.get? a = some o) (hc : o.cls = .type "set") (hd : o.dict = none) {es : Array (Int × Value)} {ep : Nat} {tb : SetTable} (hcd : o.data = .set es ep tb) (hq : Q (.done (.ret (.ref h.objs.size))) ⟨h.push (bound a), g, d, t, os⟩) :
    wpAny (model prog w) A (Builtin.«object.__getattribute__» ⟨[.ref a, .str "__contains__" tk], []⟩) Q E ⟨h, g, d, t, os⟩ := by
  have hT : (⟨h, g, d, t, os⟩ : Shared).TypeIs (.ref a) "set" := ⟨_, hx, hc⟩
  have hT5 : (⟨h, g, d, t, os⟩ : Shared).TypeIs (.builtin "set.__contains__") "method_descriptor" := F.type_set_contains
  have f4 := F.slot_set_contains.lookup
  have f5 := F.type_set_contains
  have f6 := slot_md_get.lookup
  have f7 := md_no_set
  have f8 := md_no_delete
  iterate 14 (first | assumption | wp_step)
  refine wpAny_of_eq f4 ?_
  refine wpAny_bind (m := ObjectAttr.getOf _) (wpAny_specialOf hT5 f6 ?_)
  refine wpAny_bind (m := ObjectAttr.dataDescriptor? _ _) ?_
  show wpAny _ _ (ObjectAttr.takesStores _ >>= _) _ _ _
  unfold ObjectAttr.takesStores
  refine wpAny_bind ?_
  refine wpAny_bind (wpAny_specialOf hT5 f7 ?_)
  try dsimp only
  rw [if_neg (by decide)]
  refine wpAny_bind (wpAny_specialOf hT5 f8 ?_)
  refine wpAny_pure ?_
  try dsimp only
  rw [if_neg (by decide)]
  refine wpAny_pure ?_
  try dsimp only
  unfold ObjectAttr.ownThenClass
  refine wpAny_bind ?_
  show wpAny _ _ (ObjectAttr.ownDict a >>= _) _ _ _
  obtain ⟨oc, odi, oda, osl⟩ := o
  dsimp only at hc hd hcd
  subst hc hd hcd
  refine wpAny_bind (wpAny_bind (wpAny_loadPart hx ?_))
  dsimp only
  unfold instanceDict
  refine wpAny_bind (wpAny_loadPart hx ?_)
  show wpAny _ _ (pure none) _ _ _
  refine wpAny_pure ?_
  show wpAny _ _ (pure none) _ _ _
  refine wpAny_pure ?_
  try dsimp only
  unfold ObjectAttr.copiedAttributeGuard ObjectAttr.byTheClass
  try dsimp only
  rw [if_neg (by decide)]
  refine wpAny_bind (wpAny_pure ?_)
  refine wpAny_bind (wpAny_rule (wpAny_pure ?_))
  try dsimp only
  unfold ObjectAttr.bindTo
  try dsimp only
  refine wpAny_bind (wpAny_holding ?_)
  refine wpAny_call ?_
  refine md_get_set (o := ⟨_, _, _, _⟩) hx rfl ?_
  try dsimp only
  exact wpAny_pure hq

theorem getattr_contains {S : Str → Bool} {n : Nat} {s : Shared} {Q : Value → Shared → Prop} (hS : s.heap.SetOf (strKind prog w) a S n)
    (hq : Q (.ref s.heap.objs.size) { s with heap := s.heap.push (bound a), toks := s.toks + 1 }) : wpAny (model prog w) A (getAttr (.ref a) (Str.ofString "__contains__") true) Q E s := by
  obtain ⟨h, g, d, t, os⟩ := s
  obtain ⟨o, es, ep, tb, ho, ⟨hc, hd, hsl⟩, hdt, _⟩ := hS
  have hT : ∀ t', (⟨h, g, d, t', os⟩ : Shared).TypeIs (.ref a) "set" := fun _ => ⟨_, ho, hc⟩
  have f2 := F.slot_set_getattribute.lookup
  unfold getAttr getAttrBy
  refine wpAny_bind (wpAny_mkText (wpAny_holding (wpAny_bind (wpAny_typeOf (hT _) (wpAny_bind (wpAny_of_eq f2 ?_))))))
  show wpAny _ _ (getAttrByItsOwn (.ref a) (.str (Str.ofString "__contains__") t) (.type "set") (.builtin "set.__getattribute__") true true) _ _ _
  unfold getAttrByItsOwn hookBefore callGetattribute boundAndCalled
  refine wpAny_bind (wpAny_of_eq (show (if onTheHeap (.type "set") then typeLookup (.type "set") "__getattr__" else pure none) = pure none from rfl) ?_)
  refine wpAny_bind (wpAny_attempt (wpAny_holding ?_))
  show wpAny _ _ (bindSpecial (.builtin "set.__getattribute__") (.ref a) >>= _) _ _ _
  refine wpAny_bind (wpAny_of_eq (F.slot_set_getattribute.bind _) ?_)
  refine wpAny_mono (Q := fun v s' => v = .ref h.objs.size ∧ s' = ⟨h.push (bound a), g, d, t + 1, os⟩) (E := fun _ _ => False)
    (wpAny_call_entry F.slot_set_getattribute (hT _) F.entry_set_ga (ga_entry ho hc hd hdt ⟨_, rfl, rfl, rfl⟩) (F.args_set_getattribute_2 _ _)) (fun v s' hv => ?_) fun _ _ z => z.elim
  obtain ⟨rfl, rfl⟩ := hv
  exact wpAny_pure hq

theorem sub_set_module : isSubtype (.type "set") (.type "module") = pure false := by rw [isSubtype_type]; kernel_rfl
theorem sub_set_type : isSubtype (.type "set") (.type "type") = pure false := by rw [isSubtype_type]; kernel_rfl
theorem kind_sc : builtinKind "set.__contains__" = some .method := by kernel_rfl
theorem sig_sc : Manifest.signature? "set.__contains__" = some ⟨.oneArg, "set.__contains__", "__contains__", .self, [⟨"object", .posOnly, true⟩]⟩ := by
  rw [signature?_of (id := "set.__contains__") (n := ['_', '_', 's', 'n', 'i', 'a', 't', 'n', 'o', 'c', '_', '_']) (o := ['t', 'e', 's']) (by kernel_rfl) F.owner_set]; kernel_rfl

theorem args_sc (x : Value) (k : Str) (tk : Tok) : Bind.checkArgs "set.__contains__" ⟨.oneArg, s!"{Bind.lastOf "set"}.{Bind.lastOf "set.__contains__"}", "__contains__", .self, [⟨"object", .posOnly, true⟩]⟩ ⟨[x, .str k tk], []⟩ = pure () := by kernel_rfl
theorem varargs_sc : Manifest.varargsMethods.contains "set.__contains__" = false := by decide +kernel
theorem check_sc {s : Shared} {a : Addr} {S : Str → Bool} {n : Nat} {k : Str} {tk : Tok} {Q : Unit → Shared → Prop} (hS : s.heap.SetOf (strKind prog w) a S n) (hq : Q () s) :
    wpAny (model prog w) A (checkBoundCall "set.__contains__" ⟨[.ref a, .str k tk], []⟩) Q E s := by
  have hT := hS.typeIs
  obtain ⟨o, es, ep, tb, ho, ⟨hc, hd, hsl⟩, hdt, _⟩ := hS
  unfold checkBoundCall
  simp only [sig_sc, kind_sc]
  rw [if_neg (by decide)]
  refine wpAny_bind (wpAny_isInstance hT sub_set_module ?_)
  simp only [varargs_sc, Bool.false_or, Bool.false_eq_true, if_false]
  refine wpAny_bind (m := isType (.ref a)) ?_
  show wpAny _ _ (loadHead a >>= _) _ _ _
  refine wpAny_bind (wpAny_loadPart ho ?_)
  obtain ⟨oc, odi, oda, osl⟩ := o
  dsimp only at hc hd hdt
  subst hc hd hdt
  refine wpAny_pure ?_
  simp only [Bool.false_eq_true, if_false]
  refine wpAny_bind (wpAny_typeOf hT ?_)
  exact wpAny_of_eq (args_sc _ _ _) hq
theorem call_bound {s : Shared} {B a : Addr} {S : Str → Bool} {n : Nat} {k : Str} {tk : Tok} {Q : Value → Shared → Prop} (hB : s.heap.get? B = some (bound a)) (hS : s.heap.SetOf (strKind prog w) a S n)
    (hq : Q (.bool (S k)) { s with toks := s.toks + 1 }) : wpAny (model prog w) A (call (.ref B) [.str k tk]) Q E s := by
  refine wpAny_call (codeAny_of_tree ?_)
  show wpAny _ A.in1 (callAny (.ref B) ⟨[.str k tk], []⟩) _ _ s
  simp only [callAny]
  refine wpAny_bind (wpAny_load hB ?_)
  have hcond : (Value.type "builtin_function_or_method" == Value.type "method" || Value.type "builtin_function_or_method" == Value.type "builtin_function_or_method" || Value.type "builtin_function_or_method" == Value.type "method-wrapper") = true := by decide +kernel
  have hkey : (strKind prog w).is k (.str k tk) = true := by show Value.isStrOf k (.str k tk) = true; simp [Value.isStrOf]
  simp only [hcond]
  rw [if_pos trivial]
  refine wpAny_ite_split (fun _ => ?_) (fun h => absurd (by decide) h)
  refine wpAny_bind (check_sc hS ?_)
  refine wpAny_pure ⟨plainId_quiet F.slot_set_contains.plain _, codeAny_builtin entry_set_contains ?_⟩
  rw [Around.under_plainId F.slot_set_contains.plain _]
  unfold Builtin.«frozenset.__contains__» Builtin.Frozenset.oneOther
  simp only [List.isEmpty_nil, bind_assoc]
  unfold Builtin.Frozenset.addrOf Builtin.Frozenset.withSetAsKey setContains
  refine wpAny_bind (wpAny_pure ?_)
  try dsimp only
  refine wpAny_bind (wpAny_pure ?_)
  try dsimp only
  refine wpAny_bind (wpAny_tryCatch ?_)
  refine wpAny_holding ?_
  refine wpAny_bind ((strKind prog w).pyHash hkey ?_)
  refine wpAny_bind (wpAny_setFind_of (s := { s with toks := s.toks + 1 }) hkey rfl hS fun r hr => ?_)
  refine wpAny_pure ?_
  show wpAny _ _ (ret (Value.bool r.isSome)) _ _ _
  rw [hr]
  exact wpAny_pure hq
end
end Mine
namespace Mine
open PySem.Builtin PySem.Spec

theorem slot_filter_next : Slot "filter" "__next__" "filter.__next__" :=
  .of (owner := "filter") (n := "__next__") (by rw [typeLookup_type, builtinLookup_eq_fast]; kernel_rfl) (by decide +kernel) (by decide +kernel) (by decide +kernel)
    (by first | exact .inl (by decide +kernel) | exact .inr (by decide +kernel)) (by rw [isSubtype_type]; kernel_rfl)
theorem slot_filter_iter : Slot "filter" "__iter__" "filter.__iter__" :=
  .of (owner := "filter") (n := "__iter__") (by rw [typeLookup_type, builtinLookup_eq_fast]; kernel_rfl) (by decide +kernel) (by decide +kernel) (by decide +kernel)
    (by first | exact .inl (by decide +kernel) | exact .inr (by decide +kernel)) (by rw [isSubtype_type]; kernel_rfl)
theorem slot_filter_init : Slot "filter" "__init__" "object.__init__" :=
  .of (owner := "object") (n := "__init__") (by rw [typeLookup_type, builtinLookup_eq_fast]; kernel_rfl) (by decide +kernel) (by decide +kernel) (by decide +kernel)
    (by first | exact .inl (by decide +kernel) | exact .inr (by decide +kernel)) (by rw [isSubtype_type]; kernel_rfl)
theorem entry_filter_next : entryFor table "filter.__next__" = some Builtin.«filter.__next__» := entryFor_of_tree (by kernel_rfl)
theorem entry_filter_new : entryFor table "filter.__new__" = some Builtin.«filter.__new__» := entryFor_of_tree (by kernel_rfl)
theorem plain_filter_next : plainId "filter.__next__" = true := by decide +kernel
theorem args_filter_next_1 (a : Value) : argsOk "filter.__next__" ⟨[a], []⟩ := by unfold argsOk; kernel_rfl
theorem args_filter_iter_1 (a : Value) : argsOk "filter.__iter__" ⟨[a], []⟩ := by unfold argsOk; kernel_rfl
theorem mro_filter : mroOf (.type "filter") = pure [.type "filter", .type "object"] := by rw [mroOf_type]; kernel_rfl
theorem lookup_filter_new : typeLookup (.type "filter") "__new__" = pure (some (.builtin "filter.__new__")) := by rw [typeLookup_type, builtinLookup_eq_fast]; kernel_rfl
theorem sub_filter : isSubtype (.type "filter") (.type "filter") = pure true := by rw [isSubtype_type]; kernel_rfl
theorem called_filter : TypeCalled "filter" "filter.__new__" "object.__init__" :=
  ⟨by decide +kernel, by decide +kernel, ⟨_, _, mro_filter⟩, madeBy_type mro_filter lookup_filter_new (by decide +kernel), by decide +kernel, by rw [isSubtype_type]; kernel_rfl, slot_filter_init⟩
theorem typeCall_filter_2 (a b : Value) : checkTypeCall "filter" ⟨[a, b], []⟩ = pure () := by kernel_rfl
theorem newCall_filter_2 (a b : Value) : checkBuiltinCall "filter.__new__" ⟨[.type "filter", a, b], []⟩ = pure () := by kernel_rfl
theorem filter_no_len : typeLookup (.type "filter") "__len__" = pure none := by rw [typeLookup_type, builtinLookup_eq_fast]; kernel_rfl
theorem filter_no_hint : typeLookup (.type "filter") "__length_hint__" = pure none := by rw [typeLookup_type, builtinLookup_eq_fast]; kernel_rfl
theorem entry_filter_iter : entryFor table "filter.__iter__" = some Builtin.«dict_keyiterator.__iter__» :=
  entryFor_alias (id' := "dict_keyiterator.__iter__") (by kernel_rfl) (by first | rfl | decide +kernel | (unfold String.splitOn; simp +decide [String.splitOnAux])) (by decide +kernel) (by kernel_rfl)

abbrev IsFilter (h : Heap) (e it : Addr) (f : Value) : Prop :=
  h.get? e = some { cls := .type "filter", dict := none, data := .fields #[f, .ref it], slots := #[] }

section
variable {prog : Program} {w : World} {A : Around} {E : Value → Shared → Prop} {s : Shared}
theorem pyIter_filter {e it : Addr} {f : Value} {Q : Value → Shared → Prop} (he : IsFilter s.heap e it f) (h : Q (.ref e) s) : wpAny (model prog w) A (pyIter (.ref e)) Q E s := by
  have hT : s.TypeIs (.ref e) "filter" := ⟨_, he, rfl⟩
  refine wpAny_pyIter_slot hT slot_filter_iter (wpAny_call_entry slot_filter_iter hT entry_filter_iter ?_ (args_filter_iter_1 _))
  show wpAny _ _ (ret (.ref e)) _ _ s
  exact wpAny_pure ⟨_, rfl, "filter", _, hT, slot_filter_next.lookup, h⟩

theorem meets_filter_new (f : Value) (l : Addr) (items : Array Value) :
    Meets (Builtin.«filter.__new__» ⟨[.type "filter", f, .ref l], []⟩) (fun _ R s => s.heap.IsList l items ∧
      R (.ok (.ret (.ref (s.heap.objs.size + 1))))
        { s with heap := (s.heap.push { cls := .type "list_iterator", data := .fields #[.ref l, .int 0 0] }).push { cls := .type "filter", data := .fields #[f, .ref s.heap.objs.size] } }) :=
  .of_wp fun prog w A R s h => by
    obtain ⟨hp, g, d, tk, os⟩ := s; obtain ⟨hl, h⟩ := h
    have hsub := sub_filter
    wp_walk using wpAny_pyIter_list hl
    exact ⟨_, rfl, by simpa [Heap.size_push] using h⟩
theorem call_filter_list {f : Value} {l : Addr} {items : Array Value} {Q : Value → Shared → Prop} (hL : s.heap.IsList l items)
    (h : ∀ h', IsFilter h' (s.heap.objs.size + 1) s.heap.objs.size f → h'.IsListIter s.heap.objs.size l 0 → h'.objs.size = s.heap.objs.size + 2 → (∀ b o, s.heap.get? b = some o → h'.get? b = some o) → Q (.ref (s.heap.objs.size + 1)) { s with heap := h' }) :
    wpAny (model prog w) A (call (.type "filter") [f, .ref l]) Q E s := by
  refine callType_new called_filter (by decide) (typeCall_filter_2 _ _) (newCall_filter_2 _ _) (fun obj => args_object_init_3 obj _ _) entry_filter_new
    (meets_filter_new f l items) ⟨hL, ?_⟩
  have z1 : (s.heap.push { cls := .type "list_iterator", data := .fields #[.ref l, .int 0 0] }).objs.size = s.heap.objs.size + 1 := Heap.size_push ..
  have he : IsFilter ((s.heap.push { cls := .type "list_iterator", data := .fields #[.ref l, .int 0 0] }).push { cls := .type "filter", data := .fields #[f, .ref s.heap.objs.size] }) (s.heap.objs.size + 1) s.heap.objs.size f := by
    have := Heap.get?_push_size (s.heap.push { cls := .type "list_iterator", data := .fields #[.ref l, .int 0 0] }) (o := { cls := .type "filter", data := .fields #[f, .ref s.heap.objs.size] }) rfl
    rw [z1] at this; exact this
  refine ⟨⟨_, he, rfl⟩, h _ he ⟨_, Heap.get?_push_of_some _ (Heap.get?_push_size _ rfl), rfl, rfl⟩ (by rw [Heap.size_push, z1]) fun b o x => Heap.get?_push_of_some _ (Heap.get?_push_of_some _ x)⟩
end
end Mine
namespace Mine
open PySem.Builtin PySem.Spec

section
variable {prog : Program} {w : World} {A : Around} {E : Value → Shared → Prop} {s : Shared}
theorem cs_item {it l : Addr} {i : Nat} {items} {x : Value} {Q : Option Value → Shared → Prop} (hit : s.heap.IsListIter it l i)
    (hl : s.heap.IsList l items) (hx : items[i]? = some x) (hQ : ∀ h', h'.IsListIter it l (i + 1) → Heap.SameBut it s.heap h' → Q (some x) { s with heap := h' }) :
    wpAny (model prog w) A (callSpecial? (.ref it) "__next__") Q E s := by
  obtain ⟨o, ho, hc, hd⟩ := id hit
  obtain ⟨ol, hol, _, nl, hdl⟩ := hl
  refine wpAny_callSpecial?_slot (name := Str.ofString "__next__") hit.typeIs slot_listiter_next (wpAny_call_entry slot_listiter_next hit.typeIs entry_listiter_next ?_ (args_listiter_next _))
  show wpAny _ _ (field (.ref it) 0 >>= _) _ _ s
  refine wpAny_bind (wpAny_field ho hd (x := .ref l) rfl ?_)
  show wpAny _ _ (if (Value.ref l == Value.none) = true then _ else _) _ _ s
  rw [if_neg (show ¬ ((Value.ref l == Value.none) = true) from Bool.false_ne_true)]
  show wpAny _ _ (field (.ref it) 1 >>= _) _ _ s
  refine wpAny_bind (wpAny_field ho hd (x := .int i 0) rfl ?_)
  show wpAny _ _ (seqItems? (.ref l) >>= _) _ _ s
  refine wpAny_bind (wpAny_seqItems hol hdl ?_)
  simp only [Int.toNat_natCast, hx]
  refine wpAny_bind (wpAny_setField ho hd (by simp) (wpAny_pure ⟨x, rfl, hQ _ ?_ (Heap.SameBut.update ..)⟩))
  exact ⟨_, Heap.get?_update_self _ ho (Obj.isFreed_of_fields (Obj.data_mapFields hd _)), (Obj.cls_mapFields ..).trans hc, by
    rw [Obj.data_mapFields hd]; simp [rawInt]⟩
theorem cs_end {it l : Addr} {i : Nat} {items} {Q : Option Value → Shared → Prop} (hh : A.handled = none) (hit : s.heap.IsListIter it l i) (hl : s.heap.IsList l items) (hx : items[i]? = none)
    (hE : ∀ h' e, Heap.ExtBut it s.heap h' → (∃ o, h'.get? e = some o ∧ o.cls = .type "StopIteration") → E (.ref e) { s with heap := h' }) : wpAny (model prog w) A (callSpecial? (.ref it) "__next__") Q E s := by
  obtain ⟨o, ho, hc, hd⟩ := id hit
  obtain ⟨ol, hol, _, nl, hdl⟩ := hl
  refine wpAny_callSpecial?_slot (name := Str.ofString "__next__") hit.typeIs slot_listiter_next (wpAny_call_entry slot_listiter_next hit.typeIs entry_listiter_next ?_ (args_listiter_next _))
  show wpAny _ _ (field (.ref it) 0 >>= _) _ _ s
  refine wpAny_bind (wpAny_field ho hd (x := .ref l) rfl ?_)
  show wpAny _ _ (if (Value.ref l == Value.none) = true then _ else _) _ _ s
  rw [if_neg (show ¬ ((Value.ref l == Value.none) = true) from Bool.false_ne_true)]
  show wpAny _ _ (field (.ref it) 1 >>= _) _ _ s
  refine wpAny_bind (wpAny_field ho hd (x := .int i 0) rfl ?_)
  show wpAny _ _ (seqItems? (.ref l) >>= _) _ _ s
  refine wpAny_bind (wpAny_seqItems hol hdl ?_)
  simp only [Int.toNat_natCast, hx]
  refine wpAny_bind (wpAny_rule (wpAny_bind (wpAny_setField ho hd (by simp) ?_)))
  show wpAny _ _ (newExc (.type "StopIteration") [] >>= _) _ _ _
  refine wpAny_bind ?_
  simp only [newExc, newTuple]
  refine wpAny_bind (wpAny_newObj_type ?_ (by size_fits))
  refine wpAny_bind (m := firstArgMember _ _) (wpAny_of_eq (a := Value.none) (by first | rfl | (simp only [firstArgMember]; rfl)) ?_)
  refine wpAny_newObj_type ?_ (by size_fits)
  simp only [raiseNew]
  refine wpAny_bind (wpAny_handled ?_)
  first | rw [show A.in1.handled = none from hh] | rw [hh]
  refine wpAny_bind (wpAny_pure (wpAny_throw ?_))
  exact hE _ _ (((Heap.SameBut.update ..).extBut.push _).push _) ⟨_, Heap.get?_push_size _ rfl, rfl⟩
end

section
variable {prog : Program} {w : World} {A : Around}
theorem filter_run {e it l B : Addr} {vs : List Value} {ss : List Str} {pz : Str → Bool} {base : Heap} (h1 : e ≠ it) (h3 : l ≠ it) (hi : StrsAre vs ss) (hb : base.objs.size ≤ it) (hh : A.handled = none)
    (hf : ∀ x t (s : Shared) (Q : Value → Shared → Prop) (E : Value → Shared → Prop), base.StaysIn s.heap → (∀ tk, Q (.bool (pz x)) { s with toks := tk }) → wpAny (model prog w) A.in1 (call (.ref B) [.str x t]) Q E s) :
    ∀ (k p : Nat) (s : Shared) (R : Result → Shared → Prop), ss.length - p = k → p ≤ ss.length → base.StaysIn s.heap → IsFilter s.heap e it (.ref B) → s.heap.IsListIter it l p → s.heap.IsList l vs.toArray →
      (∀ q x t h' tk, p ≤ q → ss[q]? = some x → pz x = true → ((ss.drop p).take (q - p)).filter pz = [] → (∀ b o, b ≠ it → s.heap.get? b = some o → h'.get? b = some o) → h'.IsListIter it l (q + 1) → R (.ok (.ret (.str x t))) { s with heap := h', toks := tk }) →
      ((ss.drop p).filter pz = [] → ∀ h' tk ex, (∀ b o, b ≠ it → s.heap.get? b = some o → h'.get? b = some o) → (∃ o, h'.get? ex = some o ∧ o.cls = .type "StopIteration") → R (.error (.ref ex)) { s with heap := h', toks := tk }) →
      wpAny (model prog w) A.in1 (Builtin.«filter.__next__» ⟨[.ref e], []⟩) (fun fin s' => match fin with | .done f => R (.ok f) s' | .again c' => c'.quiet = true ∧ codeAny (model prog w) A c' R s') (fun x s' => R (.error x) s') s := by
  intro k
  induction k with
  | zero =>
    intro p s R hk hp st he hit hl _ hR
    have hpe : p = ss.length := by omega
    subst hpe
    show wpAny _ _ (field (.ref e) 0 >>= _) _ _ _
    refine wpAny_bind (wpAny_field he rfl (x := .ref B) rfl ?_)
    show wpAny _ _ (field (.ref e) 1 >>= _) _ _ _
    refine wpAny_bind (wpAny_field he rfl (x := .ref it) rfl ?_)
    refine wpAny_bind (cs_end (show A.in1.handled = none from hh) hit hl (by simp [hi.length]) fun h' ex hext hx => ?_)
    exact hR (by simp) h' s.toks ex (fun b o hb e => hext b o hb e) hx
  | succ k ih =>
    intro p s R hk hp st he hit hl hQ hR
    have hlt : p < ss.length := by omega
    have hx : ss[p]? = some ss[p] := List.getElem?_eq_getElem hlt
    obtain ⟨t, hv⟩ := hi.get p _ hx
    show wpAny _ _ (field (.ref e) 0 >>= _) _ _ _
    refine wpAny_bind (wpAny_field he rfl (x := .ref B) rfl ?_)
    show wpAny _ _ (field (.ref e) 1 >>= _) _ _ _
    refine wpAny_bind (wpAny_field he rfl (x := .ref it) rfl ?_)
    refine wpAny_bind (cs_item hit hl (by simpa using hv) fun h₁ hit₁ hs₁ => ?_)
    have ext : ∀ b o, b ≠ it → s.heap.get? b = some o → h₁.get? b = some o := fun b o hb e => hs₁.extBut b o hb e
    have st₁ : base.StaysIn h₁ := fun b o e => ext b o (fun h => absurd (Heap.lt_size e) (by rw [h]; exact Nat.not_lt.mpr hb)) (st b o e)
    try dsimp only
    refine wpAny_bind (wpAny_holding ?_)
    rw [if_neg (show ¬ ((Value.ref B == Value.none || Value.ref B == Value.type "bool") = true) from Bool.false_ne_true)]
    refine wpAny_bind (hf _ _ _ _ _ st₁ fun tk => ?_)
    refine wpAny_holding (wpAny_truthy_bool ?_)
    have hdrop : ss.drop p = ss[p] :: ss.drop (p + 1) := List.drop_eq_getElem_cons hlt
    cases hz : pz ss[p] with
    | true =>
      rw [if_pos rfl]
      exact wpAny_pure (hQ p _ t h₁ tk (Nat.le_refl _) hx hz (by simp) ext hit₁)
    | false =>
      rw [if_neg Bool.false_ne_true]
      refine wpAny_pure ⟨plainId_quiet plain_filter_next _, codeAny_builtin entry_filter_next ?_⟩
      rw [Around.under_plainId plain_filter_next _]
      refine ih (p + 1) { s with heap := h₁, toks := tk } R (by omega) hlt st₁ (ext e _ h1 he) hit₁ (hl.at fun o e => ext l _ h3 e) (fun q x t h' tk' hq hx' hz' hnone hext hit' => ?_) (fun hnone h' tk' ex hext hxx => ?_)
      · refine hQ q x t h' tk' (by omega) hx' hz' ?_ (fun b o hb e => hext b o hb (ext b o hb e)) hit'
        rw [hdrop, show q - p = (q - (p + 1)) + 1 by omega, List.take_succ_cons, List.filter_cons, hz]
        exact hnone
      · refine hR ?_ h' tk' ex (fun b o hb e => hext b o hb (ext b o hb e)) hxx
        rw [hdrop, List.filter_cons, hz]; exact hnone

theorem filter_next {e it l B : Addr} {vs : List Value} {ss : List Str} {pz : Str → Bool} {base : Heap} {p : Nat} {s : Shared} {Q : Option Value → Shared → Prop} {E : Value → Shared → Prop} (h1 : e ≠ it) (h3 : l ≠ it) (hi : StrsAre vs ss) (hb : base.objs.size ≤ it) (hh : A.handled = none)
    (hf : ∀ x t (s : Shared) (Q : Value → Shared → Prop) (E : Value → Shared → Prop), base.StaysIn s.heap → (∀ tk, Q (.bool (pz x)) { s with toks := tk }) → wpAny (model prog w) A.in1 (call (.ref B) [.str x t]) Q E s)
    (hp : p ≤ ss.length) (st : base.StaysIn s.heap) (he : IsFilter s.heap e it (.ref B)) (hit : s.heap.IsListIter it l p) (hl : s.heap.IsList l vs.toArray)
    (hQ : ∀ q x t h' tk, p ≤ q → ss[q]? = some x → pz x = true → ((ss.drop p).take (q - p)).filter pz = [] → (∀ b o, b ≠ it → s.heap.get? b = some o → h'.get? b = some o) → h'.IsListIter it l (q + 1) → Q (some (.str x t)) { s with heap := h', toks := tk })
    (hE : (ss.drop p).filter pz = [] → ∀ h' tk ex, (∀ b o, b ≠ it → s.heap.get? b = some o → h'.get? b = some o) → (∃ o, h'.get? ex = some o ∧ o.cls = .type "StopIteration") → E (.ref ex) { s with heap := h', toks := tk }) :
    wpAny (model prog w) A (callSpecial? (.ref e) "__next__") Q E s := by
  have hT : s.TypeIs (.ref e) "filter" := ⟨_, he, rfl⟩
  refine wpAny_callSpecial?_slot (name := Str.ofString "__next__") hT slot_filter_next ?_
  refine wpAny_call ?_
  refine codeAny_call_builtin (R := wants (fun v => Q (some v)) E) slot_filter_next.plain entry_filter_next (slot_filter_next.check _ _ _ _ _ _ _ _ hT (args_filter_next_1 _) ?_)
  exact filter_run h1 h3 hi hb hh hf _ p s (wants (fun v => Q (some v)) E) rfl hp st he hit hl hQ hE

theorem take_filter_len {ss : List Str} {pz : Str → Bool} {p q : Nat} {x : Str} (hp : p ≤ q) (hx : ss[q]? = some x) (hz : pz x = true) (hn : ((ss.drop p).take (q - p)).filter pz = []) : (ss.take (q + 1)).filter pz = (ss.take p).filter pz ++ [x] := by
  have e : ss.take q = ss.take p ++ (ss.drop p).take (q - p) := by
    conv => lhs; rw [show q = p + (q - p) by omega]
    rw [List.take_add]
  rw [List.take_add_one, hx, List.filter_append, e, List.filter_append, hn, List.append_nil]
  simp [hz]
theorem filter_take_pre {ss : List Str} {pz : Str → Bool} (q : Nat) : ∃ r, ss.filter pz = (ss.take q).filter pz ++ r := by
  refine ⟨(ss.drop q).filter pz, ?_⟩
  rw [← List.filter_append, List.take_append_drop]

theorem Walks_filter (hh : A.handled = none) {base : Heap} (e it l B : Addr) {vs : List Value} {ss : List Str} (pz : Str → Bool) (hi : StrsAre vs ss) (h1 : e ≠ it) (h3 : l ≠ it) (hb : base.objs.size ≤ it)
    (hf : ∀ x t (s : Shared) (Q : Value → Shared → Prop) (E : Value → Shared → Prop), base.StaysIn s.heap → (∀ tk, Q (.bool (pz x)) { s with toks := tk }) → wpAny (model prog w) A.in1 (call (.ref B) [.str x t]) Q E s) :
    Walks prog w A e ([e, it, l] ++ List.range base.objs.size) [it] (ss.filter pz).length (fun i v => ∃ x t, (ss.filter pz)[i]? = some x ∧ v = .str x t)
      (fun i h => base.StaysIn h ∧ IsFilter h e it (.ref B) ∧ h.IsList l vs.toArray ∧ ∃ p, p ≤ ss.length ∧ h.IsListIter it l p ∧ ((ss.take p).filter pz).length = i) where
  sub := fun b hb => by simp at hb; simp [hb]
  frame := fun i h h' ⟨st, a, d, p, hp, c, hl⟩ hk => ⟨fun b o e => hk b (by have := Heap.lt_size e; simp; right; right; right; exact this) o (st b o e), hk e (by simp) _ a, d.at fun o e => hk l (by simp) o e, p, hp, c.at fun o e => hk it (by simp) o e, hl⟩
  item := fun i s Q E hlt ⟨st, he, hl, p, hp, hit, hpi⟩ hQ => by
    have hT : s.TypeIs (.ref e) "filter" := ⟨_, he, rfl⟩
    unfold pyNext
    refine wpAny_bind (wpAny_attempt (filter_next h1 h3 hi hb hh hf hp st he hit hl (fun q x t h' tk hq hx hz hn hext hit' => ?_) (fun hn h' tk ex hext hx => ?_)))
    · have htk := take_filter_len hq hx hz hn
      refine wpAny_pure (hQ _ h' tk ⟨x, t, ?_, rfl⟩ ⟨fun b o e => hext b o (fun h => absurd (Heap.lt_size e) (by rw [h]; exact Nat.not_lt.mpr hb)) (st b o e), hext e _ h1 he, hl.at fun o e => hext l _ h3 e, q + 1, (List.getElem?_eq_some_iff.mp hx).1, hit', by rw [htk, List.length_append, hpi]; rfl⟩ fun b o hb e => hext b o (fun h => hb (by simp [h])) e)
      obtain ⟨r, hr⟩ := filter_take_pre (ss := ss) (pz := pz) (q + 1)
      rw [hr, htk, List.append_assoc, List.getElem?_append_right (by omega), hpi, Nat.sub_self]; rfl
    · exfalso
      have : (ss.filter pz).length = i := by
        conv => lhs; rw [← List.take_append_drop p ss, List.filter_append, hn, List.append_nil]
        exact hpi
      omega
  done := fun s Q E ⟨st, he, hl, p, hp, hit, hpi⟩ hQ => by
    have hT : s.TypeIs (.ref e) "filter" := ⟨_, he, rfl⟩
    unfold pyNext
    refine wpAny_bind (wpAny_attempt (filter_next h1 h3 hi hb hh hf hp st he hit hl (fun q x t h' tk hq hx hz hn hext hit' => ?_) (fun hn h' tk ex hext hx => ?_)))
    · exfalso
      have htk := take_filter_len hq hx hz hn
      obtain ⟨r, hr⟩ := filter_take_pre (ss := ss) (pz := pz) (q + 1)
      have := congrArg List.length hr
      rw [htk, List.length_append, List.length_append, hpi] at this
      simp at this
      omega
    · obtain ⟨o, ho, hc⟩ := hx
      refine wpAny_bind (wpAny_isInstance (T := "StopIteration") (b := true) ⟨o, ho, hc⟩ isSubtype_stop ?_)
      exact wpAny_pure (hQ h' tk fun b o hb e => hext b o (fun h => hb (by simp [h])) e)
  self := fun _ _ _ _ ⟨_, he, _⟩ hQ => pyIter_filter he hQ
end
end Mine
namespace Mine
open PySem.Builtin PySem.Spec

theorem setOf_keep {prog : Program} {w : World} {h h' : Heap} {a : Addr} {S : Str → Bool} {n : Nat} (hS : h.SetOf (strKind prog w) a S n) (k : h.StaysIn h') : h'.SetOf (strKind prog w) a S n :=
  let ⟨o, es, ep, t, ho, r⟩ := hS; ⟨o, es, ep, t, k _ _ ho, r⟩
theorem strs_of_filter {acc : Array Value} {ss : List Str} (h : ItemsOf (fun i v => ∃ x t, ss[i]? = some x ∧ v = .str x t) acc ss.length) : StrsAre acc.toList ss := by
  obtain ⟨hsz, hi⟩ := h
  obtain ⟨l⟩ := acc
  simp only [List.size_toArray] at hsz
  have hi' : ∀ (j : Nat) (v : Value), l[j]? = some v → ∃ x t, ss[j]? = some x ∧ v = .str x t := fun j v e => hi j v (by simpa using e)
  clear hi
  induction l generalizing ss with
  | nil => cases ss with | nil => exact .nil | cons y ss => simp at hsz
  | cons v l ih =>
    cases ss with
    | nil => simp at hsz
    | cons y ss =>
      obtain ⟨x, t, e1, e2⟩ := hi' 0 v rfl
      cases e1
      subst e2
      exact .cons _ _ (ih (by simpa using hsz) fun j v e => by simpa using hi' (j + 1) v (by simpa using e))

section
variable {prog : Program} {w : World} {A : Around} {E : Value → Shared → Prop} {s : Shared}
/-- list(filter(set.__contains__, texts)) -/
theorem call_list_filter {base : Heap} {e it l B a : Addr} {vs : List Value} {ss : List Str} {S : Str → Bool} {n : Nat} {Q : Value → Shared → Prop} (hh : A.handled = none) (hB : base.get? B = some (bound a)) (hS : base.SetOf (strKind prog w) a S n)
    (he : IsFilter s.heap e it (.ref B)) (hit : s.heap.IsListIter it l 0) (hl : s.heap.IsList l vs.toArray) (hi : StrsAre vs ss) (st : base.StaysIn s.heap) (h1 : e ≠ it) (h3 : l ≠ it) (hb : base.objs.size ≤ it) (hn : ss.length ≤ 100000)
    (hQ : ∀ h' tk ys c, (∀ b o, b ≠ it → s.heap.get? b = some o → h'.get? b = some o) → h'.get? s.heap.objs.size = some (W.listOf (List.toArray ys) c) → StrsAre ys (ss.filter S) → Q (.ref s.heap.objs.size) { s with heap := h', toks := tk }) :
    wpAny (model prog w) A (call (.type "list") [.ref e]) Q E s := by
  refine call_list_iter filter_no_len filter_no_hint (by decide) (by decide) (Walks_filter (A := A.in1.in1) hh (base := base) e it l B S hi h1 h3 hb (fun x t s Q E st hq => ?_)) (fun i h st => ⟨_, st.2.1, rfl⟩) ⟨st, he, hl, 0, Nat.zero_le _, hit, rfl⟩ ?_ (by simp) ?_ ?_
  · exact call_bound (st _ _ hB) (setOf_keep hS st) (hq _)
  · intro b hb'
    simp only [List.mem_append, List.mem_cons, List.mem_range, List.not_mem_nil, or_false] at hb'
    obtain ⟨ol, hol, _⟩ := hl
    obtain ⟨oi, hoi, _⟩ := hit
    rcases hb' with (rfl | rfl | rfl) | hb'
    · exact Heap.lt_size he
    · exact Heap.lt_size hoi
    · exact Heap.lt_size hol
    · exact Nat.lt_trans (Nat.lt_of_lt_of_le hb' hb) (Heap.lt_size hoi)
  · intro h' tk acc c hk hS' hacc
    have := strs_of_filter hacc
    refine hQ h' tk acc.toList c (fun b o hb e => hk b o (by simp [hb]) e) ?_ this
    rw [Array.toArray_toList]; exact hS'
  · rw [sizeLine_eq]
    have := List.length_filter_le S ss
    omega
theorem getattr_contains' {a : Addr} {S : Str → Bool} {n : Nat} {Q : Value → Shared → Prop} (hS : s.heap.SetOf (strKind prog w) a S n)
    (hq : ∀ h' tk B, s.heap.StaysIn h' → h'.get? B = some (bound a) → s.heap.get? B = none → h'.objs.size = s.heap.objs.size + 1 → Q (.ref B) { s with heap := h', toks := tk }) : wpAny (model prog w) A (getAttr (.ref a) (Str.ofString "__contains__") true) Q E s := by
  refine getattr_contains hS (hq _ _ _ (fun b o e => Heap.get?_push_of_some _ e) (Heap.get?_push_size _ rfl) ?_ (Heap.size_push ..))
  cases q : s.heap.get? s.heap.objs.size with
  | none => rfl
  | some o => exact absurd (Heap.lt_size q) (Nat.lt_irrefl _)
end
end Mine
namespace Mine
open PySem.Builtin

/-- an entry's own fields -/
abbrev entD (P : Params) (t1 t2 t3 t4 : Tok) (ua rl : Addr) (de ra : Value) : Obj :=
  dictOf [⟨PyData.keyHash P (Str.ofString "useragents"), .str (Str.ofString "useragents") t1, .ref ua⟩, ⟨PyData.keyHash P (Str.ofString "rulelines"), .str (Str.ofString "rulelines") t2, .ref rl⟩,
    ⟨PyData.keyHash P (Str.ofString "delay"), .str (Str.ofString "delay") t3, de⟩, ⟨PyData.keyHash P (Str.ofString "req_rate"), .str (Str.ofString "req_rate") t4, ra⟩] 4
structure Ent (P : Params) (h : Heap) (a dx ua rl : Addr) (vs rs : List Value) (de ra : Value) (t1 t2 t3 t4 : Tok) (n m : Nat) : Prop where
  at_ : h.get? a = some (instObj 59 dx)
  dict : h.get? dx = some (entD P t1 t2 t3 t4 ua rl de ra)
  uas : h.get? ua = some (W.listOf vs.toArray n)
  rls : h.get? rl = some (W.listOf rs.toArray m)
theorem Ent.keep {P : Params} {h h' : Heap} {a dx ua rl : Addr} {vs rs : List Value} {de ra : Value} {t1 t2 t3 t4 : Tok} {n m : Nat} (e : Ent P h a dx ua rl vs rs de ra t1 t2 t3 t4 n m) (k : ∀ b o, h.get? b = some o → h'.get? b = some o) : Ent P h' a dx ua rl vs rs de ra t1 t2 t3 t4 n m :=
  ⟨k _ _ e.at_, k _ _ e.dict, k _ _ e.uas, k _ _ e.rls⟩
theorem Ent.inst {P : Params} {h : Heap} {a dx ua rl : Addr} {vs rs : List Value} {de ra : Value} {t1 t2 t3 t4 : Tok} {n m : Nat} (e : Ent P h a dx ua rl vs rs de ra t1 t2 t3 t4 n m) : InstAt h a (instObj 59 dx) 59 (some (entD P t1 t2 t3 t4 ua rl de ra)) :=
  ⟨e.at_, rfl, rfl, e.dict⟩
theorem inst_keep {h h' : Heap} {L a : Addr} {m : Str → Option Value} {ox : Obj} {C : Addr} {od : Option Obj} (I : InstAt h a ox C od) (F : Fr h L h' m) : InstAt h' a ox C od := by
  obtain ⟨a1, a2, a3, a4⟩ := I
  refine ⟨F.keep _ _ a1, a2, a3, ?_⟩
  cases h1 : ox.dict <;> cases od <;> rw [h1] at a4 <;> first | exact a4 | exact F.keep _ _ a4
theorem news_fresh {h₀ h h' : Heap} {L D : Addr} {m : Str → Option Value} {o : Obj} (F : Fr h₀ L h m) (hn : h.get? D = none) (hg : h'.get? D = some o) : h'.get? (D, o).1 = some (D, o).2 ∧ (D, o).1 ≠ L ∧ h₀.get? (D, o).1 = none := by
  refine ⟨hg, ?_, ?_⟩
  · rintro rfl
    obtain ⟨o, _, _, ho, _⟩ := F.ns
    rw [hn] at ho; cases ho
  · cases q2 : h₀.get? D with
    | none => rfl
    | some o => have := F.keep _ _ q2; rw [hn] at this; cases this
theorem news_push {h₀ h : Heap} {L a : Addr} {o : Obj} {r : List (Addr × Obj)} (h1 : h.get? (a, o).1 = some (a, o).2 ∧ (a, o).1 ≠ L ∧ h₀.get? (a, o).1 = none) (N : News h₀ L h r) : News h₀ L h ((a, o) :: r) := by
  intro q hq
  rcases List.mem_cons.mp hq with rfl | hq
  · exact h1
  · exact N q hq
theorem kept_fr {h₀ h h' : Heap} {L : Addr} {m : Str → Option Value} (hF : Fr h₀ L h m) (k : ∀ b o, h.get? b = some o → h'.get? b = some o) : Fr h₀ L h' m :=
  ⟨hF.ns.at' fun o e => k L o e, fun b o e => k b o (hF.keep b o e), hF.above⟩
theorem kept_news {h₀ h h' : Heap} {L : Addr} {news : List (Addr × Obj)} (hN : News h₀ L h news) (k : ∀ b o, h.get? b = some o → h'.get? b = some o) : News h₀ L h' news :=
  fun p hp => ⟨k _ _ (hN p hp).1, (hN p hp).2⟩
/-- a fresh entry onto the ledger -/
theorem news_ent {P : Params} {h₀ h h' : Heap} {L a dx ua rl : Addr} {m : Str → Option Value} {vs rs : List Value} {de ra : Value} {t1 t2 t3 t4 : Tok} {n k : Nat} {news : List (Addr × Obj)} (F : Fr h₀ L h m) (N : News h₀ L h news) (st : h.StaysIn h')
    (h1 : h.get? a = none) (h2 : h.get? dx = none) (h3 : h.get? ua = none) (h4 : h.get? rl = none) (e : Ent P h' a dx ua rl vs rs de ra t1 t2 t3 t4 n k) :
    News h₀ L h' ((rl, W.listOf rs.toArray k) :: (ua, W.listOf vs.toArray n) :: (a, instObj 59 dx) :: (dx, entD P t1 t2 t3 t4 ua rl de ra) :: news) :=
  news_push (news_fresh F h4 e.rls) (news_push (news_fresh F h3 e.uas) (news_push (news_fresh F h1 e.at_) (news_push (news_fresh F h2 e.dict) (kept_news N st))))
theorem fr_as {h₀ h : Heap} {L : Addr} {m m' : Str → Option Value} (F : Fr h₀ L h m) (e : m = m') : Fr h₀ L h m' := e ▸ F
end Mine
set_option maxHeartbeats 8000000 in
open_top hd5 for PySem.Challenge.rw_kn0088_05
namespace Mine
open PySem.Builtin
theorem fillK {P : Prop} (h : PySem.Challenge.rw_kn0088_05 = PySem.Challenge.rw_kn0088_05 → hd5.heap_39 = hd5.heap_39 → P) : P := h rfl rfl

local macro_rules | `(tactic| walk_at "my steps") => `(tactic| repeat' (first | (k_unfold; (try dsimp only)) | ((fail_if_success (with_reducible show wpAny _ _ (pyIter _) _ _ _)); (fail_if_success (with_reducible show Exists _)); (fail_if_success (with_reducible show wpAny _ _ (exec (Stmt.For _ _ _ _ _) _) _ _ _)); (first | walk1 | (dsimp only; walk1)); (try dsimp only))))

set_option maxHeartbeats 8000000 in
/-- Entry() -/
theorem entry_spec {prog : Program} {w : World} {mean : ExcName → Option Value} {mg mb : Str → Option Value} {A : Around} {s : Shared} {Q E : Value → Shared → Prop}
    (C : Cx (hd5.heap_39 w.params) hd5.view_39 (looseW hd5.view_39 []) mean mg mb A s.heap 6)
    (hQ : ∀ h' tk a dx ua rl t1 t2 t3 t4, s.heap.StaysIn h' → s.heap.get? a = none → s.heap.get? dx = none → s.heap.get? ua = none → s.heap.get? rl = none → Ent w.params h' a dx ua rl [] [] .none .none t1 t2 t3 t4 0 0 →
      dx < a → a < ua → ua < rl → Q (.ref a) { s with heap := h', toks := tk }) : wpAny (model prog w) A (call (.ref 59) []) Q E s := by
  refine fillK ?_
  k_fill
  intro _ _
  have X := C.K
  have T := C.T
  refine wpAny_call ?_
  obtain ⟨hp, g, d, tk0, os⟩ := s
  refine make_core (C := 59) (makes_of X (by k_is)) (looks_findIn X (by k_is)) (fun self => bind_fn X self (by k_is)) (.inl rfl) ?_
  have z1 : (hp.push emptyDict).objs.size = hp.objs.size + 1 := Heap.size_push ..
  have C1 : Cx (hd5.heap_39 w.params) hd5.view_39 (looseW hd5.view_39 []) mean mg mb A ((hp.push emptyDict).push (instObj 59 hp.objs.size)) 6 := C.keep fun b o e => Heap.get?_push_of_some _ (Heap.get?_push_of_some _ e)
  refine fn_code (s := ⟨_, _, _, _, _⟩) (C1.make 59 []) (by k_is) (by k_is) (BindsTo.of_eq rfl) (locs rfl) ?_
  intro L h₁ hL hF0 hN0
  have hF : Fr hp L h₁ _ := ⟨hF0.ns, fun b o e => hF0.keep b o (Heap.get?_push_of_some _ (Heap.get?_push_of_some _ e)), by rw [hL, Heap.size_push, z1]; exact Nat.le_succ_of_le (Nat.le_succ _)⟩
  have gx : ((hp.push emptyDict).push (instObj 59 hp.objs.size)).get? (hp.objs.size + 1) = some (instObj 59 hp.objs.size) := by
    have := Heap.get?_push_size (hp.push emptyDict) (o := instObj 59 hp.objs.size) rfl
    rw [z1] at this; exact this
  have gd : ((hp.push emptyDict).push (instObj 59 hp.objs.size)).get? hp.objs.size = some emptyDict := Heap.get?_push_of_some _ (Heap.get?_push_size _ rfl)
  have none_of : ∀ b, hp.objs.size ≤ b → hp.get? b = none := fun b hb => by
    cases q : hp.get? b with
    | none => rfl
    | some o => exact absurd (Heap.lt_size q) (Nat.not_lt.mpr hb)
  have hN : News hp L h₁ [(hp.objs.size + 1, instObj 59 hp.objs.size), (hp.objs.size, emptyDict)] := by
    intro p hp'
    simp only [List.mem_cons, List.not_mem_nil, or_false] at hp'
    rcases hp' with rfl | rfl
    · exact ⟨hF0.keep _ _ gx, by rw [hL, Heap.size_push, z1]; exact Nat.ne_of_lt (Nat.lt_succ_self _), none_of _ (Nat.le_succ _)⟩
    · exact ⟨hF0.keep _ _ gd, by rw [hL, Heap.size_push, z1]; exact Nat.ne_of_lt (Nat.lt_succ_of_lt (Nat.lt_succ_self _)), none_of _ (Nat.le_refl _)⟩
  clear hF0 hN0
  try dsimp only
  walk_at "my steps"
  rename Fr _ _ _ _ => hF1
  rename News _ _ _ _ => hN1
  rename_i lu _ lu1 _ _ lr _ lr1 _ _ _ _ _
  exact ⟨rfl, hQ _ _ _ _ _ _ _ _ _ _ (fun b o e => hF1.keep b o e) (none_of _ (Nat.le_succ _)) (none_of _ (Nat.le_refl _)) (hN1 _ (.tail _ (.head _))).2.2 (hN1 _ (.head _)).2.2
    ⟨(hN1 _ (.tail _ (.tail _ (.head _)))).1, (hN1 _ (.tail _ (.tail _ (.tail _ (.head _))))).1, (hN1 _ (.tail _ (.head _))).1, (hN1 _ (.head _)).1⟩ (Nat.lt_succ_self _) lu1.1 lr1.1⟩
end Mine
namespace Mine
open PySem.Builtin
local macro_rules | `(tactic| walk_at "my steps") => `(tactic| repeat' (first | (k_unfold; (try dsimp only)) | ((fail_if_success (with_reducible show wpAny _ _ (pyIter _) _ _ _)); (fail_if_success (with_reducible show Exists _)); (fail_if_success (with_reducible show wpAny _ _ (exec (Stmt.For _ _ _ _ _) _) _ _ _)); (fail_if_success (with_reducible show wpAny _ _ (call (Value.type "set") _) _ _ _)); (fail_if_success (with_reducible show wpAny _ _ (call (Value.ref _) _) _ _ _)); (first | walk1 | (dsimp only; walk1)); (try dsimp only))))
local macro_rules | `(tactic| walk_at "getAttr ref") => `(tactic| (k_here; k_dflt (refine' get_own ?k1 ?k2 ?k3 ?k4 ?k5 ?k6 ?k7 ?k8 ?k9 ?_; (case k1 => k_asm); (case k2 => k_asm); (case k3 => exact inst_keep (by assumption) (by assumption)); (case k4 => k_is); (case k5 => k_is); (case k6 => k_is); (case k7 => k_is); (case k8 => k_get); (case k9 => first | k_handed | assumption); k_whole)))

local macro_rules | `(tactic| walk_at "compareOp Is") => `(tactic| (k_here; (refine wpAny_is_plain (by assumption) ?_)))
set_option maxHeartbeats 8000000 in
theorem merge_spec {prog : Program} {w : World} {mean : ExcName → Option Value} {mg mb : Str → Option Value} {A : Around} {s : Shared} {a1 dx1 ua1 rl1 a2 dx2 ua2 rl2 : Addr} {vs1 rs1 vs2 rs2 : List Value} {de1 ra1 de2 ra2 : Value}
    {t1 t2 t3 t4 u1 u2 u3 u4 : Tok} {n1 m1 n2 m2 : Nat} {ss1 ss2 : List Str} {Q E : Value → Shared → Prop}
    (C : Cx (hd5.heap_39 w.params) hd5.view_39 (looseW hd5.view_39 []) mean mg mb A s.heap 10)
    (E1 : Ent w.params s.heap a1 dx1 ua1 rl1 vs1 rs1 de1 ra1 t1 t2 t3 t4 n1 m1) (E2 : Ent w.params s.heap a2 dx2 ua2 rl2 vs2 rs2 de2 ra2 u1 u2 u3 u4 n2 m2) (hv1 : StrsAre vs1 ss1) (hv2 : StrsAre vs2 ss2)
    (hs1 : ss1.length ≤ 1000) (hs2 : ss2.length ≤ 1000) (hr1 : rs1.length ≤ 10000) (hr2 : rs2.length ≤ 10000)
    (hd1 : handedIn de1 = true) (hd2 : handedIn de2 = true) (hd3 : handedIn ra1 = true) (hd4 : handedIn ra2 = true) (hp1 : plainIs de2 .none = true) (hp2 : plainIs ra2 .none = true)
    (hQ : ∀ h' tk a dx ua rl vs de ra t1 t2 t3 t4 n m, de = (if de2 == .none then de1 else de2) → ra = (if ra2 == .none then ra1 else ra2) → s.heap.StaysIn h' → s.heap.get? a = none → s.heap.get? dx = none → s.heap.get? ua = none → s.heap.get? rl = none →
      Ent w.params h' a dx ua rl vs (rs1 ++ rs2) de ra t1 t2 t3 t4 n m → StrsAre vs (ss1.filter fun k => ss2.any fun a => decide (k = a)) → Q (.ref a) { s with heap := h', toks := tk }) : wpAny (model prog w) A (call (.ref 70) [.ref a1, .ref a2]) Q E s := by
  refine fillK ?_
  k_fill
  intro _ _
  refine fn_call C (by k_is) (by k_is) rfl (locs rfl) ?_
  intro L h₁ tk hF hN
  have X := C.K
  have T := C.T
  have I1 := E1.inst
  have I2 := E2.inst
  have hl1 : s.heap.IsList ua1 vs1.toArray := ⟨_, E1.uas, rfl, _, rfl⟩
  have hl2 : s.heap.IsList ua2 vs2.toArray := ⟨_, E2.uas, rfl, _, rfl⟩
  have hm1 : s.heap.IsList rl1 rs1.toArray := ⟨_, E1.rls, rfl, _, rfl⟩
  have hm2 : s.heap.IsList rl2 rs2.toArray := ⟨_, E2.rls, rfl, _, rfl⟩
  walk_at "my steps"
  refine entry_spec (((C.deeper _).keep (Fr.keep hF)).le (by decide)) fun h2 tk2 a dx ua rl y1 y2 y3 y4 st2 f1 f2 f3 f4 hE2 o1 o2 o3 => ?_
  have hF2 := kept_fr hF st2
  have hN2 := news_ent hF hN st2 f1 f2 f3 f4 hE2
  have hlt : @LT.lt Nat _ dx a ∧ @LT.lt Nat _ a ua ∧ @LT.lt Nat _ ua rl := ⟨o1, o2, o3⟩
  dsimp only [entD] at hN2
  clear hF hN hE2 o1 o2 o3
  try dsimp only
  walk_at "my steps"
  rename Fr _ _ _ _ => hF3
  rename News _ _ _ _ => hN3
  refine call_set_strs C.hh (hl2.at fun o e => hF3.keep _ _ e) hv2 (by unfold scanBound; omega) fun h4 tk4 n4 hS4 st4 => ?_
  have hF4 := kept_fr hF3 st4
  have hN4 := kept_news hN3 st4
  clear hF3 hN3
  refine getattr_contains' hS4 fun h5 tk5 B5 st5 hB5 f5 z5 => ?_
  have hF5 := kept_fr hF4 st5
  have hN5 := kept_news hN4 st5
  have hS5 := setOf_keep hS4 st5
  clear hF4 hN4
  try dsimp only
  walk_at "my steps"
  refine call_filter_list (hl1.at fun o e => hF5.keep _ _ e) fun h6 he6 hit6 hz6 st6 => ?_
  have hlt1 : ua1 < h5.objs.size := by obtain ⟨o, ho, _⟩ := hl1; exact Heap.lt_size (hF5.keep _ _ ho)
  have hF5' := hF5
  have hN5' := hN5
  try dsimp only
  walk_at "my steps"
  refine call_list_filter (base := h5) C.hh hB5 hS5 he6 hit6 (hl1.at fun o e => st6 _ _ (hF5'.keep _ _ e)) hv1 st6 (Nat.succ_ne_self _) (Nat.ne_of_lt hlt1) (Nat.le_refl _) (by omega) fun h7 tk7 ys7 c7 k7 hg7 hys7 => ?_
  have k57 : ∀ b o, h5.get? b = some o → h7.get? b = some o := fun b o e => k7 b o (Nat.ne_of_lt (Heap.lt_size e)) (st6 b o e)
  have n6 : h6.get? h6.objs.size = none := by
    cases q : h6.get? h6.objs.size with
    | none => rfl
    | some o => exact absurd (Heap.lt_size q) (Nat.lt_irrefl _)
  have hF7 := kept_fr hF5' k57
  have hN7 := news_push (news_fresh (kept_fr hF5' st6) n6 hg7) (kept_news hN5' k57)
  have hlt7 : @LT.lt Nat _ rl h6.objs.size ∧ @LT.lt Nat _ ua h6.objs.size ∧ @LT.lt Nat _ a h6.objs.size ∧ @LT.lt Nat _ dx h6.objs.size := ⟨Heap.lt_size (st6 _ _ (hN5' _ (.head _)).1), Heap.lt_size (st6 _ _ (hN5' _ (.tail _ (.head _))).1), Heap.lt_size (st6 _ _ (hN5' _ (.tail _ (.tail _ (.head _)))).1), Heap.lt_size (st6 _ _ (hN5' _ (.tail _ (.tail _ (.tail _ (.head _))))).1)⟩
  clear hF5' hN5' hF5 hN5
  clear k7 hg7 n6 hz6 hit6 he6 st6
  try dsimp only at hF7 hN7 hlt7
  try dsimp only
  generalize h6.objs.size = D7 at hF7 hN7 hlt7 ⊢
  walk_at "my steps"
  rename_i h8 F8 N8 h9 F9 N9
  have hlt8 : @LT.lt Nat _ D7 h8.objs.size ∧ @LT.lt Nat _ rl h8.objs.size ∧ @LT.lt Nat _ ua h8.objs.size ∧ @LT.lt Nat _ a h8.objs.size ∧ @LT.lt Nat _ dx h8.objs.size := ⟨Heap.lt_size (N8 _ (.head _)).1, Heap.lt_size (N8 _ (.tail _ (.head _))).1, Heap.lt_size (N8 _ (.tail _ (.tail _ (.head _)))).1, Heap.lt_size (N8 _ (.tail _ (.tail _ (.tail _ (.head _))))).1, Heap.lt_size (N8 _ (.tail _ (.tail _ (.tail _ (.tail _ (.head _)))))).1⟩
  clear F8 N8
  try dsimp only at N9
  generalize h8.objs.size = D8 at N9 hlt8 ⊢
  walk_at "my steps"
  all_goals (
    rename Fr _ _ _ _ => hFz
    rename News _ _ _ _ => hNz
    rename StrsAre ys7 _ => hys
    rename (de2 == Value.none) = _ => hc1
    rename (ra2 == Value.none) = _ => hc2
    exact hQ _ _ _ _ _ _ _ _ _ _ _ _ _ _ _ (by rw [hc1]; rfl) (by rw [hc2]; rfl) (fun b o e => hFz.keep b o e) (hNz _ (.tail _ (.tail _ (.tail _ (.tail _ (.head _)))))).2.2 (hNz _ (.tail _ (.tail _ (.tail _ (.tail _ (.tail _ (.head _))))))).2.2 (hNz _ (.tail _ (.head _))).2.2 (hNz _ (.head _)).2.2 ⟨(hNz _ (.tail _ (.tail _ (.tail _ (.tail _ (.head _)))))).1, (hNz _ (.tail _ (.tail _ (.tail _ (.tail _ (.tail _ (.head _))))))).1, (hNz _ (.tail _ (.head _))).1, (hNz _ (.head _)).1⟩ hys)
end Mine
namespace Mine
open PySem.Builtin

local macro_rules | `(tactic| walk_at "my steps") => `(tactic| repeat' (first | (k_unfold; (try dsimp only)) | ((fail_if_success (with_reducible show wpAny _ _ (pyIter _) _ _ _)); (fail_if_success (with_reducible show Exists _)); (fail_if_success (with_reducible show wpAny _ _ (exec (Stmt.For _ _ _ _ _) _) _ _ _)); (fail_if_success (with_reducible show wpAny _ _ (call (Value.ref _) _) _ _ _)); (first | walk1 | (dsimp only; walk1)); (try dsimp only))))
local macro_rules | `(tactic| walk_at "getAttr ref") => `(tactic| (k_here; k_dflt (refine' get_own ?k1 ?k2 ?k3 ?k4 ?k5 ?k6 ?k7 ?k8 ?k9 ?_; (case k1 => k_asm); (case k2 => k_asm); (case k3 => exact inst_keep (by assumption) (by assumption)); (case k4 => k_is); (case k5 => k_is); (case k6 => k_is); (case k7 => k_is); (case k8 => k_get); (case k9 => first | k_handed | assumption); k_whole)))

/-- a book: what _law_parts tells of an entry -/
structure Book (h : Heap) (b A R : Addr) (vs rs : List Value) (de ra : Value) (k n m : Nat) : Prop where
  at_ : h.get? b = some (W.listOf #[.ref A, .ref R, de, ra] k)
  ags : h.get? A = some (W.listOf vs.toArray n)
  rus : h.get? R = some (W.listOf rs.toArray m)
theorem Book.keep {h h' : Heap} {b A R : Addr} {vs rs : List Value} {de ra : Value} {k n m : Nat} (e : Book h b A R vs rs de ra k n m) (st : ∀ b o, h.get? b = some o → h'.get? b = some o) : Book h' b A R vs rs de ra k n m :=
  ⟨st _ _ e.at_, st _ _ e.ags, st _ _ e.rus⟩

set_option maxHeartbeats 8000000 in
theorem parts_spec {prog : Program} {w : World} {mean : ExcName → Option Value} {mg mb : Str → Option Value} {A : Around} {s : Shared} {a1 dx1 ua1 rl1 : Addr} {vs1 rs1 : List Value} {de1 ra1 : Value}
    {t1 t2 t3 t4 : Tok} {n1 m1 : Nat} {Q E : Value → Shared → Prop}
    (C : Cx (hd5.heap_39 w.params) hd5.view_39 (looseW hd5.view_39 []) mean mg mb A s.heap 10)
    (E1 : Ent w.params s.heap a1 dx1 ua1 rl1 vs1 rs1 de1 ra1 t1 t2 t3 t4 n1 m1) (hs1 : vs1.length ≤ 1000) (hr1 : rs1.length ≤ 10000)
    (hd1 : handedIn de1 = true) (hd3 : handedIn ra1 = true)
    (hQ : ∀ h' tk b A R k n m, s.heap.StaysIn h' → s.heap.get? b = none → s.heap.get? A = none → s.heap.get? R = none → Book h' b A R vs1 rs1 de1 ra1 k n m → A < R → R < b → Q (.ref b) { s with heap := h', toks := tk }) : wpAny (model prog w) A (call (.ref 77) [.ref a1]) Q E s := by
  refine fillK ?_
  k_fill
  intro _ _
  refine fn_call C (by k_is) (by k_is) rfl (locs rfl) ?_
  intro L h₁ tk hF hN
  have X := C.K
  have T := C.T
  have I1 := E1.inst
  have hl1 : s.heap.IsList ua1 vs1.toArray := ⟨_, E1.uas, rfl, _, rfl⟩
  have hm1 : s.heap.IsList rl1 rs1.toArray := ⟨_, E1.rls, rfl, _, rfl⟩
  walk_at "my steps"
  rename Fr _ _ _ _ => hFz
  rename News _ _ _ _ => hNz
  rename_i dA _ _ _ dR _ _ lAR dB _ lB
  exact hQ _ _ _ _ _ _ _ _ (fun b o e => hFz.keep b o e) (hNz _ (.head _)).2.2 (hNz _ (.tail _ (.tail _ (.head _)))).2.2 (hNz _ (.tail _ (.head _))).2.2 ⟨(hNz _ (.head _)).1, (hNz _ (.tail _ (.tail _ (.head _)))).1, (hNz _ (.tail _ (.head _))).1⟩ lAR lB.1

theorem eq_parts {prog : Program} {w : World} {A : Around} {E : Value → Shared → Prop} {s : Shared} {b1 A1 R1 b2 A2 R2 : Addr} {vs1 rs1 vs2 rs2 : List Value} {de1 ra1 de2 ra2 : Value} {k1 n1 m1 k2 n2 m2 : Nat} {Q : Value → Shared → Prop} (hu : A.units + 2 < cLine)
    (B1 : Book s.heap b1 A1 R1 vs1 rs1 de1 ra1 k1 n1 m1) (B2 : Book s.heap b2 A2 R2 vs2 rs2 de2 ra2 k2 n2 m2) (hAA : A1 ≠ A2) (hRR : R1 ≠ R2)
    (ha : vs1.length = vs2.length ∧ ∀ j (h1 : j < vs1.length) (h2 : j < vs2.length), ∀ A' : Around, SeqAt.EqAt A' s vs1[j] vs2[j] true) (hr : rs1.length = rs2.length ∧ ∀ j (h1 : j < rs1.length) (h2 : j < rs2.length), ∀ A' : Around, SeqAt.EqAt A' s rs1[j] rs2[j] true)
    (hd : ∀ A' : Around, SeqAt.EqAt A' s de1 de2 true) (hq : ∀ A' : Around, SeqAt.EqAt A' s ra1 ra2 true)
    (h : Q (.bool true) s) : wpAny (model prog w) A (compareOp .Eq (.ref b1) (.ref b2)) Q E s := by
  have lst : ∀ {a : Addr} {its : List Value} {n : Nat}, s.heap.get? a = some (W.listOf its.toArray n) → s.heap.IsList a its.toArray := fun e => ⟨_, e, rfl, _, rfl⟩
  have all_t : ∀ n : Nat, (List.range n).all (fun _ => true) = true := fun n => List.all_eq_true.mpr fun _ _ => rfl
  have u1 : A.in1.units + 1 < cLine := by show A.units + 1 + 1 < _; omega
  have hA : SeqAt.EqAt A.in1 s (.ref A1) (.ref A2) true := by
    have := SeqAt.EqAt.of_refs hAA (SeqAt.RcAt.lists (A := A.in1) (e := fun _ => true) (lst B1.ags) (lst B2.ags) (by simpa using ha.1) (by omega) (fun j j1 j2 => by simpa using ha.2 j (by simpa using j1) (by simpa using j2) A.in1.in1))
    rwa [all_t] at this
  have hR : SeqAt.EqAt A.in1 s (.ref R1) (.ref R2) true := by
    have := SeqAt.EqAt.of_refs hRR (SeqAt.RcAt.lists (A := A.in1) (e := fun _ => true) (lst B1.rus) (lst B2.rus) (by simpa using hr.1) (by omega) (fun j j1 j2 => by simpa using hr.2 j (by simpa using j1) (by simpa using j2) A.in1.in1))
    rwa [all_t] at this
  refine SeqAt.eq_listAt (e := fun _ => true) ⟨_, B1.at_, rfl, _, rfl⟩ ⟨_, B2.at_, rfl, _, rfl⟩ rfl (by omega) (fun j j1 j2 => ?_) (by rw [all_t]; exact h)
  have hj : j = 0 ∨ j = 1 ∨ j = 2 ∨ j = 3 := by
    have : j < 4 := j1
    omega
  rcases hj with rfl | rfl | rfl | rfl
  · exact hA
  · exact hR
  · exact hd _
  · exact hq _
end Mine
namespace Mine
open PySem.Builtin PyProof.V PySem.Spec
section
variable {prog : Program} {w : World} {A : Around} {E : Value → Shared → Prop} {s : Shared} {env : Env} {h₀ : Heap} {x : Str} {body : List Stmt} {Q : Flow → Shared → Prop}
theorem over_head {x : Str} {cs : List Str} {v : Value} {m₁ m₀ : Str → Option Value} (hm : ∀ y, y ∉ x :: cs → m₁ y = m₀ y) : (fun y => if y = x then some v else m₁ y) = fun y => if y = x then some v else overs cs m₁ m₀ y := by
  have e1 := overs_eq hm
  funext y
  by_cases hy : y = x
  · simp [hy]
  · simp only [if_neg hy]
    rw [e1]
    show (if y = x then m₁ x else overs cs m₁ m₀ y) = overs cs (overs (x :: cs) m₁ m₀) m₀ y
    rw [if_neg hy, ← e1]
theorem iter_seqK {D : Addr} {n : Nat} {P : Nat → Value → Prop} {St : Nat → Heap → Prop} {m₀ : Str → Option Value} {news : List (Addr × Obj)} (cs : List Str) (J : Nat → List (Addr × Obj) → Prop) {I : Addr}
    (W : Walks prog w A I [I, D] [I] n P St) (hD : env.locals ≠ D) (hI : env.locals ≠ I) (hI0 : h₀.get? I = none) (hnI : ∀ p ∈ news, p.1 ≠ I) (hst : St 0 s.heap) (hSt : ∀ i h, St i h → @LT.lt Nat _ I h.objs.size) (F : Fr h₀ env.locals s.heap m₀) (N : News h₀ env.locals s.heap news) (hj : J 0 news)
    (turn : ∀ i v u news₁ h tk own, i < n → P i v → J i news₁ → (∀ p ∈ news₁, p.1 ≠ I) → (∀ p ∈ own, p.1 = I ∨ p.1 = D) → @LT.lt Nat _ I h.objs.size → Fr h₀ env.locals h (fun y => if y = x then some v else overs cs u m₀ y) → News h₀ env.locals h (news₁ ++ own) →
      wpAny (model prog w) A (execs body env) (LoopStepV h₀ env.locals [I] own (fun m news => (∀ y, y ∉ x :: cs → m y = m₀ y) ∧ J (i + 1) news) { s with heap := h, toks := tk } (fun v s' => Q (.ret v) s') fun s' => Q .next s') E { s with heap := h, toks := tk })
    (done : ∀ u news₁ h tk, J n news₁ → Fr h₀ env.locals h (overs (x :: cs) u m₀) → News h₀ env.locals h news₁ → Q .next { s with heap := h, toks := tk }) :
    LoopAtV prog w A h₀ env x body Q E (.ref I) s := by
  refine iter_anyJ (fun i m news => (∀ y, y ∉ x :: cs → m y = m₀ y) ∧ J i news) W ?_ hI0 hnI hst hSt F N ⟨fun _ _ => rfl, hj⟩ ?_ ?_
  · intro hm
    rcases List.mem_cons.mp hm with hm | hm
    · exact hI hm
    · exact hD (List.mem_singleton.mp hm)
  · rintro i v m₁ news₁ h tk own hi hP ⟨hm, hJ⟩ hoff hown hlt F₁ N₁
    rw [over_head hm] at F₁
    refine turn i v m₁ news₁ h tk own hi hP hJ hoff (fun p hp => ?_) hlt F₁ N₁
    rcases List.mem_cons.mp (hown p hp) with e | e
    · exact .inl e
    · exact .inr (List.mem_singleton.mp e)
  · rintro m₁ news₁ h tk ⟨hm, hJ⟩ _ F₁ N₁
    rw [overs_eq hm] at F₁
    exact done m₁ news₁ h tk hJ F₁ N₁

theorem iter_listK {D : Addr} {items : Array Value} {m₀ : Str → Option Value} {news : List (Addr × Obj)} (cs : List Str) (J : Nat → List (Addr × Obj) → Prop) (hh : A.handled = none) (hl : s.heap.IsList D items) (hD : env.locals ≠ D) (F : Fr h₀ env.locals s.heap m₀) (N : News h₀ env.locals s.heap news) (hj : J 0 news)
    (turn : ∀ i v u news₁ h tk I own, i < items.size → items[i]? = some v → J i news₁ → (∀ p ∈ news₁, p.1 ≠ I) → (∀ p ∈ own, p.1 = I ∨ p.1 = D) → @LT.lt Nat _ I h.objs.size → Fr h₀ env.locals h (fun y => if y = x then some v else overs cs u m₀ y) → News h₀ env.locals h (news₁ ++ own) →
      wpAny (model prog w) A (execs body env) (LoopStepV h₀ env.locals [I] own (fun m news => (∀ y, y ∉ x :: cs → m y = m₀ y) ∧ J (i + 1) news) { s with heap := h, toks := tk } (fun v s' => Q (.ret v) s') fun s' => Q .next s') E { s with heap := h, toks := tk })
    (done : ∀ u news₁ h tk, J items.size news₁ → Fr h₀ env.locals h (overs (x :: cs) u m₀) → News h₀ env.locals h news₁ → Q .next { s with heap := h, toks := tk }) :
    wpAny (model prog w) A (pyIter (.ref D)) (fun it s₂ => LoopAtV prog w A h₀ env x body Q E it s₂) E s := by
  have lta : @LT.lt Nat _ D s.heap.objs.size := by obtain ⟨o, ho, _⟩ := hl; exact Heap.lt_size ho
  refine wpAny_pyIter_list hl ?_
  refine iter_seqK cs J (Walks.list hh s.heap.objs.size D (Nat.ne_of_lt lta) items) hD (Nat.ne_of_lt F.ns.lt) (next_is_new F) (fun p hp hI => absurd (Heap.lt_size (N p hp).1) (hI ▸ Nat.lt_irrefl _)) ⟨⟨_, Heap.get?_push_size _ rfl, rfl, rfl⟩, hl.at fun o e => Heap.get?_push_of_some _ e⟩ ?_ (F.push _) (fun p hp => ⟨Heap.get?_push_of_some _ (N p hp).1, (N p hp).2⟩) hj ?_ done
  · rintro i h ⟨⟨o, ho, _⟩, _⟩; exact Heap.lt_size ho
  · intro i v u news₁ h tk own hi hP hJ hoff hown hlt F₁ N₁
    exact turn i v u news₁ h tk _ own hi hP hJ hoff hown hlt F₁ N₁

theorem iter_tupleK {D : Addr} {items : Array Value} {m₀ : Str → Option Value} {news : List (Addr × Obj)} (cs : List Str) (J : Nat → List (Addr × Obj) → Prop) (hh : A.handled = none) (hl : s.heap.IsTuple D items) (hD : env.locals ≠ D) (F : Fr h₀ env.locals s.heap m₀) (N : News h₀ env.locals s.heap news) (hj : J 0 news)
    (turn : ∀ i v u news₁ h tk I own, i < items.size → items[i]? = some v → J i news₁ → (∀ p ∈ news₁, p.1 ≠ I) → (∀ p ∈ own, p.1 = I ∨ p.1 = D) → @LT.lt Nat _ I h.objs.size → Fr h₀ env.locals h (fun y => if y = x then some v else overs cs u m₀ y) → News h₀ env.locals h (news₁ ++ own) →
      wpAny (model prog w) A (execs body env) (LoopStepV h₀ env.locals [I] own (fun m news => (∀ y, y ∉ x :: cs → m y = m₀ y) ∧ J (i + 1) news) { s with heap := h, toks := tk } (fun v s' => Q (.ret v) s') fun s' => Q .next s') E { s with heap := h, toks := tk })
    (done : ∀ u news₁ h tk, J items.size news₁ → Fr h₀ env.locals h (overs (x :: cs) u m₀) → News h₀ env.locals h news₁ → Q .next { s with heap := h, toks := tk }) :
    wpAny (model prog w) A (pyIter (.ref D)) (fun it s₂ => LoopAtV prog w A h₀ env x body Q E it s₂) E s := by
  have lta : @LT.lt Nat _ D s.heap.objs.size := by obtain ⟨o, ho, _⟩ := hl; exact Heap.lt_size ho
  refine wpAny_pyIter_tuple hl ?_
  refine iter_seqK cs J (Walks.tuple hh s.heap.objs.size D (Nat.ne_of_lt lta) items) hD (Nat.ne_of_lt F.ns.lt) (next_is_new F) (fun p hp hI => absurd (Heap.lt_size (N p hp).1) (hI ▸ Nat.lt_irrefl _)) ⟨⟨_, Heap.get?_push_size _ rfl, rfl, rfl⟩, hl.at fun o e => Heap.get?_push_of_some _ e⟩ ?_ (F.push _) (fun p hp => ⟨Heap.get?_push_of_some _ (N p hp).1, (N p hp).2⟩) hj ?_ done
  · rintro i h ⟨⟨o, ho, _⟩, _⟩; exact Heap.lt_size ho
  · intro i v u news₁ h tk own hi hP hJ hoff hown hlt F₁ N₁
    exact turn i v u news₁ h tk _ own hi hP hJ hoff hown hlt F₁ N₁
end
end Mine
namespace Mine
open PySem.Builtin

local macro_rules | `(tactic| walk_at "my steps") => `(tactic| repeat' (first | (k_unfold; (try dsimp only)) | ((fail_if_success (with_reducible show wpAny _ _ (pyIter _) _ _ _)); (fail_if_success (with_reducible show Exists _)); (fail_if_success (with_reducible show wpAny _ _ (exec (Stmt.For _ _ _ _ _) _) _ _ _)); (fail_if_success (with_reducible show wpAny _ _ (call (Value.ref _) _) _ _ _)); (first | walk1 | (dsimp only; walk1)); (try dsimp only))))
local macro_rules | `(tactic| walk_at "getAttr ref") => `(tactic| (k_here; k_dflt (refine' get_own ?k1 ?k2 ?k3 ?k4 ?k5 ?k6 ?k7 ?k8 ?k9 ?_; (case k1 => k_asm); (case k2 => k_asm); (case k3 => exact inst_keep (by assumption) (by assumption)); (case k4 => k_is); (case k5 => k_is); (case k6 => k_is); (case k7 => k_is); (case k8 => k_get); (case k9 => first | k_handed | assumption); k_whole)))


local macro_rules | `(tactic| walk_at "my more") => `(tactic| repeat' (first | (k_unfold; (try dsimp only)) | ((fail_if_success (with_reducible show wpAny _ _ (call (Value.ref _) _) _ _ _)); (first | walk1 | (dsimp only; walk1)); (try dsimp only))))
theorem type_list {prog : Program} {w : World} {A : Around} {E : Value → Shared → Prop} {s : Shared} {h₀ : Heap} {L a : Addr} {m : Str → Option Value} {its : Array Value} {Q : Value → Shared → Prop} (hl : h₀.IsList a its) (F : Fr h₀ L s.heap m) (h : Q (.type "list") s) : wpAny (model prog w) A (call (.type "type") [.ref a]) Q E s := by
  obtain ⟨o, ho, hc, _⟩ := hl
  exact kto_cont ⟨o, F.keep _ _ ho, hc⟩ (by decide +kernel) h
theorem is_lists {prog : Program} {w : World} {A : Around} {E : Value → Shared → Prop} {s : Shared} {h₀ : Heap} {L a b : Addr} {m : Str → Option Value} {its its2 : Array Value} {Q : Value → Shared → Prop} (hl : h₀.IsList a its) (hb : h₀.IsList b its2) (F : Fr h₀ L s.heap m) (hne : a ≠ b) (h : Q (.bool false) s) : wpAny (model prog w) A (compareOp .Is (.ref a) (.ref b)) Q E s := by
  obtain ⟨o, ho, hc, _⟩ := hl
  obtain ⟨o2, ho2, _⟩ := hb
  exact kto_is (F.keep _ _ ho) (F.keep _ _ ho2) hne (by rw [hc]; decide) h
local macro_rules | `(tactic| walk_at "call type:type") => `(tactic| (k_here; k_dflt (first
  | (refine' kto_own ?k1 ?_; (case k1 => exact inst_keep (by assumption) (by assumption)))
  | (refine' type_list ?k1 ?k2 ?_; (case k1 => assumption); (case k2 => assumption)))))
local macro_rules | `(tactic| walk_at "compareOp Is ref ref") => `(tactic| (k_here; k_dflt (refine' is_lists ?k1 ?k2 ?k3 ?k4 ?_; (case k1 => assumption); (case k3 => assumption); (case k2 => assumption); (case k4 => assumption))))
set_option maxHeartbeats 8000000 in
theorem right_spec {prog : Program} {w : World} {mean : ExcName → Option Value} {mg mb : Str → Option Value} {A : Around} {s : Shared} {a1 dx1 ua1 rl1 a2 dx2 ua2 rl2 a3 dx3 ua3 rl3 b DA DR : Addr} {vs1 rs1 vs2 rs2 vs3 rs3 vsD rsD : List Value} {de1 ra1 de2 ra2 de3 ra3 deD raD : Value}
    {t1 t2 t3 t4 u1 u2 u3 u4 y1 y2 y3 y4 : Tok} {n1 m1 n2 m2 n3 m3 k n m : Nat} {Q E : Value → Shared → Prop}
    (C : Cx (hd5.heap_39 w.params) hd5.view_39 (looseW hd5.view_39 []) mean mg mb A s.heap 14)
    (E1 : Ent w.params s.heap a1 dx1 ua1 rl1 vs1 rs1 de1 ra1 t1 t2 t3 t4 n1 m1) (E2 : Ent w.params s.heap a2 dx2 ua2 rl2 vs2 rs2 de2 ra2 u1 u2 u3 u4 n2 m2) (E3 : Ent w.params s.heap a3 dx3 ua3 rl3 vs3 rs3 de3 ra3 y1 y2 y3 y4 n3 m3)
    (B : Book s.heap b DA DR vsD rsD deD raD k n m) (hs1 : vs1.length ≤ 1000) (hr1 : rs1.length ≤ 10000)
    (hd1 : handedIn de1 = true) (hd3 : handedIn ra1 = true)
    (x1 : ua1 ≠ ua2) (x2 : ua1 ≠ ua3) (x3 : rl1 ≠ rl2) (x4 : rl1 ≠ rl3)
    (ha : vs1.length = vsD.length ∧ ∀ j (h1 : j < vs1.length) (h2 : j < vsD.length), ∀ (A' : Around) s', SeqAt.EqAt A' s' vs1[j] vsD[j] true) (hr : rs1.length = rsD.length ∧ ∀ j (h1 : j < rs1.length) (h2 : j < rsD.length), ∀ (A' : Around) s', SeqAt.EqAt A' s' rs1[j] rsD[j] true)
    (hd : ∀ (A' : Around) s', SeqAt.EqAt A' s' de1 deD true) (hq : ∀ (A' : Around) s', SeqAt.EqAt A' s' ra1 raD true)
    (hQ : ∀ h' tk, s.heap.StaysIn h' → Q (.bool true) { s with heap := h', toks := tk }) : wpAny (model prog w) A (call (.ref 89) [.ref a1, .ref a2, .ref a3, .ref b]) Q E s := by
  refine fillK ?_
  k_fill
  intro _ _
  refine fn_call C (by k_is) (by k_is) rfl (locs rfl) ?_
  intro L h₁ tk hF hN
  have X := C.K
  have T := C.T
  have I1 := E1.inst
  have I2 := E2.inst
  have I3 := E3.inst
  have hl1 : s.heap.IsList ua1 vs1.toArray := ⟨_, E1.uas, rfl, _, rfl⟩
  have hm1 : s.heap.IsList rl1 rs1.toArray := ⟨_, E1.rls, rfl, _, rfl⟩
  have hl2 : s.heap.IsList ua2 vs2.toArray := ⟨_, E2.uas, rfl, _, rfl⟩
  have hm2 : s.heap.IsList rl2 rs2.toArray := ⟨_, E2.rls, rfl, _, rfl⟩
  have hl3 : s.heap.IsList ua3 vs3.toArray := ⟨_, E3.uas, rfl, _, rfl⟩
  have hm3 : s.heap.IsList rl3 rs3.toArray := ⟨_, E3.rls, rfl, _, rfl⟩
  walk_at "my steps"
  rename Fr _ _ _ _ => hF1
  replace hF1 := fr_as (m' := fun y => if y = Str.ofString "due" then some (Value.ref b) else if y = Str.ofString "right" then some (.ref a3) else if y = Str.ofString "left" then some (.ref a2) else if y = Str.ofString "one" then some (.ref a1) else none) hF1 (by
    funext y
    show List.lookup y [(Str.ofString "due", Value.ref b), (Str.ofString "right", .ref a3), (Str.ofString "left", .ref a2), (Str.ofString "one", .ref a1)] = _
    rw [lookup_cons_if, lookup_cons_if, lookup_cons_if, lookup_cons_if]; rfl)
  refine' For_invV s.heap ?q1 ?q2 ?_ ?q3 ?q4
  case q1 => exact rfl
  case q2 => exact rfl
  case q3 => intro _; rfl
  case q4 => passes_own
  walk_at "my steps"
  rename Fr _ _ _ _ => hF2
  rename News _ _ _ _ => hN2
  have hZ := hN2 _ (.head _)
  refine iter_tupleK [] (fun i news => news = []) C.hh ⟨_, hZ.1, rfl, _, rfl⟩ (Ne.symm hZ.2.1) hF2 News.nil rfl ?_ ?_
  · rintro i v u news₁ h3 tk3 I own hi hv rfl hoff hown hlt hF3 hN3
    simp only [overs] at hF3
    have hiv : v = .ref a2 ∨ v = .ref a3 := by
      have : i = 0 ∨ i = 1 := by have : i < 2 := hi; omega
      rcases this with rfl | rfl
      · exact .inl (Option.some.inj hv).symm
      · exact .inr (Option.some.inj hv).symm
    clear hN2 hF2 hZ
    rcases hiv with rfl | rfl
    all_goals (
      try dsimp only
      walk_at "my steps"
      rename News _ _ _ _ => hN4
      refine LoopStepU.intro hF3 (news₂ := []) (fun p hp => hN4 p (by simpa using hp)) (fun _ h => nomatch h) ⟨?_, rfl⟩
      intro y hy
      simp only [List.mem_cons, List.not_mem_nil, or_false] at hy
      simp only [hy, if_false])
  · rintro u news₁ h3 tk3 rfl hF3 hN3
    simp only [overs] at hF3
    clear hN2 hF2 hZ
    try dsimp only
    walk_at "my steps"
    refine parts_spec (((C.deeper _).keep (Fr.keep hF3)).le (by decide)) (E1.keep fun b o e => hF3.keep _ _ e) hs1 hr1 hd1 hd3 fun h4 tk4 b4 A4 R4 k4 n4 m4 st4 f1 f2 f3 hB4 o1 o2 => ?_
    have hF4 := kept_fr hF3 st4
    have none_old : ∀ {a : Addr} {o : Obj} {x : Addr}, s.heap.get? a = some o → h3.get? x = none → x ≠ a := by
      rintro a o x ha hx rfl
      have := hF3.keep _ _ ha
      rw [hx] at this; cases this
    have n1 := none_old B.ags f2
    have n2 := none_old B.rus f3
    clear hF3 hN3
    try dsimp only
    walk_at "my steps"
    refine eq_parts (by have := C.un; show A.units + 3 + 2 < _; omega) hB4 (B.keep fun b o e => hF4.keep _ _ e) n1 n2 ⟨ha.1, fun j h1 h2 A' => ha.2 j h1 h2 A' _⟩ ⟨hr.1, fun j h1 h2 A' => hr.2 j h1 h2 A' _⟩ (fun A' => hd A' _) (fun A' => hq A' _) ?_
    try dsimp only
    walk_at "my steps"
    exact hQ _ _ fun b o e => hF4.keep _ _ e
end Mine
namespace Mine
open PySem.Builtin PyProof.V PySem.Spec

theorem paired_same : ∀ {a b : List Value}, Paired (fun v y => y = v) a b → b = a := by
  intro a b h
  induction h with
  | nil => rfl
  | cons h _ ih => rw [h, ih]
section
variable {prog : Program} {w : World} {A : Around} {E : Value → Shared → Prop} {s : Shared} {env : Env}
/-- `[x for x in a list if c]`, its names captured or not, as a value -/
theorem eval_filter {x : Str} {px px' : Pos} {iter c : PySem.Expr} {scope : Scope} {cl : List (Str × Addr)} {pos : Pos} {Q : Value → Shared → Prop} (p : Value → Bool) (hh : A.handled = none)
    (hclos : closureFor scope env = pure cl) (hcell : ∀ z ∈ scope.names, z.2 ≠ .cell) (hkind : scope.kind = .function)
    (hnames : ∀ z ∈ scope.names, z.2 = .local → scope.names.lookup z.1 = some .local) (hx : scope.names.lookup x = some .local) (hd : (x == ("__debug__" : Str)) = false)
    (h : wpAny (model prog w) A (eval iter env) (fun xv s₁ => ∃ (ax : Addr) (vs : List Value), xv = .ref ax ∧ s₁.heap.IsList ax (List.toArray vs) ∧ vs.length ≤ 1000000 ∧
      (∀ C s₃ m₃ E' v, v ∈ vs → s₃.heap.Ns C m₃ → m₃ x = some v → (∀ b o, s₁.heap.get? b = some o → s₃.heap.get? b = some o) →
        wpAny (model prog w) A (isTrue c (compEnvC scope cl C env) (eval c (compEnvC scope cl C env))) (fun ok s₄ => ok = p v ∧ Keeps s₃ s₄) E' s₃) ∧
      (∀ D h' tk c, s₁.heap.get? D = none → h'.get? D = some (W.listOf (List.toArray (vs.filter p)) c) → (∀ b o, s₁.heap.get? b = some o → h'.get? b = some o) → Q (.ref D) { s₁ with heap := h', toks := tk })) E s)
    (hs : ∀ x, foldedSetIterable iter env x = pure x := by intro _; rfl) :
    wpAny (model prog w) A (eval (.ListComp (.Name x px') [⟨.Name x px, iter, [c], 0⟩] scope pos) env) Q E s := by
  refine wpAny_ListComp_free p (fun v y => y = v) hclos hcell hkind hnames hx (wpAny_mono h (fun xv s₁ h₁ => ?_) fun _ _ e => e) hs
  obtain ⟨ax, vs, rfl, hl, hlen, ht, hQ⟩ := h₁
  have lta : @LT.lt Nat _ ax s₁.heap.objs.size := by obtain ⟨o, ho, _⟩ := hl; exact Heap.lt_size ho
  refine wpAny_pyIter_list hl ?_
  have W := Walks.list (prog := prog) (w := w) hh s₁.heap.objs.size ax (Nat.ne_of_lt lta) vs.toArray
  have hnI : ∀ b o, s₁.heap.get? b = some o → b ∉ [s₁.heap.objs.size] := fun b o e hm => absurd (Heap.lt_size e) (by rw [List.mem_singleton.mp hm]; exact Nat.lt_irrefl _)
  have item : ∀ {i : Nat} {v : Value}, vs.toArray[i]? = some v → v ∈ vs := fun {i v} hi => List.mem_of_getElem? (by simpa using hi)
  refine ⟨_, _, _, vs.toArray.size, _, _, rfl, W, by rw [List.size_toArray, sizeLine_eq]; omega, ⟨⟨_, Heap.get?_push_size _ rfl, rfl, rfl⟩, hl.at fun o e => Heap.get?_push_of_some _ e⟩, ?_, ⟨?_, ?_⟩, ?_⟩
  · intro b hb
    rw [Heap.size_push]
    rcases List.mem_cons.mp hb with rfl | hb
    · exact Nat.lt_succ_self _
    · rw [List.mem_singleton.mp hb]; exact Nat.lt_succ_of_lt lta
  · intro C i v s₃ m₃ E' hC hi hn₃ hx₃ hk _
    exact wpAny_tests_one (ht C s₃ m₃ E' v (item hi) hn₃ hx₃ fun b o e => hk b o (hnI b o e) (Heap.get?_push_of_some _ e))
  · intro C i v s₃ m₃ E' hC hi hpv hn₃ hx₃ hk _
    have hkd : (compEnvC scope cl C env).kindOf x = some .local := lookup_relabel_local hx
    have hk3 : (compEnvC scope cl C env).scope.kind = .function := by simp [compEnvC, relabel, hkind]
    exact wpAny_Name (wpAny_loadName_local hk3 hkd hn₃ hx₃ ⟨rfl, ⟨s₃.heap, s₃.toks, rfl, fun _ _ e => e⟩⟩) hd
  · intro D h' tk ys vs' hD hl' hpl hlen' hP hF hk
    obtain ⟨c, hpl⟩ := hpl
    have hvs : vs' = vs := by
      apply List.ext_getElem?
      intro j
      cases q : vs'[j]? with
      | none =>
        have := List.getElem?_eq_none_iff.mp q
        rw [hlen', List.size_toArray] at this
        rw [List.getElem?_eq_none this]
      | some v => have := hP j v q; rw [← this]; simp
    subst hvs
    have e := paired_same hF
    have hD' : s₁.heap.get? D = none := by
      cases q : s₁.heap.get? D with
      | none => rfl
      | some o =>
        have := Heap.get?_push_of_some { cls := .type "list_iterator", data := .fields #[.ref ax, .int 0 0] } q
        rw [show (s₁.heap.push { cls := .type "list_iterator", data := .fields #[.ref ax, .int 0 0] }).get? D = none from hD] at this
        cases this
    refine hQ D h' tk c hD' ?_ fun b o e => hk b o (hnI b o e) (Heap.get?_push_of_some _ e)
    rw [← e, Array.toArray_toList]; exact hpl
end

/-- a turn's end where the loop's name is a cell -/
def CellStepL (h₀ : Heap) (L c : Addr) (own : List (Addr × Obj)) (I : Addr) (Jn : (Str → Option Value) → List (Addr × Obj) → Prop) (s₁ : Shared) (f : Flow) (s₂ : Shared) : Prop :=
  f = .next ∧ ∃ h' tk m₂ o₂ news₂, s₂ = { s₁ with heap := h', toks := tk } ∧ Fr h₀ L h' m₂ ∧ News h₀ L h' ((c, o₂) :: (own ++ news₂)) ∧ (∀ p ∈ news₂, p.1 ≠ I ∧ p.1 ≠ c) ∧ (∃ v, o₂.data = .cell v) ∧ Jn m₂ news₂
section
variable {prog : Program} {w : World} {A : Around} {E : Value → Shared → Prop} {s : Shared} {env : Env}
theorem storeCell {M : Model} {A : Around} {E : Value → Shared → Prop} {s : Shared} {h₀ : Heap} {L : Addr} {m : Str → Option Value} {env : Env} {x : Str} {c : Addr} {o : Obj} {rest : List (Addr × Obj)} {v₀ : Option Value} {v : Value} {Q : Unit → Shared → Prop}
    (F : Fr h₀ L s.heap m) (N : News h₀ L s.heap ((c, o) :: rest)) (hr : ∀ p ∈ rest, p.1 ≠ c) (hd : o.data = .cell v₀) (hk : env.scope.kind = .function) (hl : env.kindOf x = some .cell) (hc : env.cells.lookup x = some c)
    (h : ∀ h' o', Fr h₀ L h' m → News h₀ L h' ((c, o') :: rest) → o'.data = .cell (some v) → Q () { s with heap := h' }) : wpAny M A (storeName env x v) Q E s := by
  have hmem := N (c, o) (.head _)
  refine wpAny_storeName_cell hk hl hc ⟨o, hmem.1, hd⟩ fun h' hv hs => ?_
  obtain ⟨o', ho', hd'⟩ := hv
  refine h h' o' ⟨F.ns.sameBut hs (Ne.symm hmem.2.1), fun b ob e => (hs.2 b (fun q => ?_)).trans (F.keep b ob e), F.above⟩ (N.setAt (own := []) (fun _ h => nomatch h) hr hs ho') hd'
  rw [q, hmem.2.2] at e; cases e

/-- a loop over a list of the base's, whose name is a cell -/
theorem For_list_cell {Q : Flow → Shared → Prop} {x : Str} {px pos : Pos} {iter : PySem.Expr} {body : List Stmt} {c : Addr} (h₀ : Heap) (hx : env.kindOf x = some .cell) (hc : env.cells.lookup x = some c) (hk : env.scope.kind = .function) (hh : A.handled = none)
    (h : wpAny (model prog w) A (eval iter env) (fun xv s₂ => ∃ (ax : Addr) (vs : List Value) (m : Str → Option Value) (o : Obj) (news : List (Addr × Obj)) (J : Nat → (Str → Option Value) → List (Addr × Obj) → Prop),
      xv = .ref ax ∧ h₀.IsList ax vs.toArray ∧ Fr h₀ env.locals s₂.heap m ∧ News h₀ env.locals s₂.heap ((c, o) :: news) ∧ (∀ p ∈ news, p.1 ≠ c) ∧ (∃ v, o.data = .cell v) ∧ J 0 m news ∧
      (∀ i v m₁ o₁ I oI news₁ h tk, vs[i]? = some v → J i m₁ news₁ → (∀ p ∈ news₁, p.1 ≠ I ∧ p.1 ≠ c) → I ≠ c → o₁.data = .cell (some v) → Fr h₀ env.locals h m₁ → News h₀ env.locals h ((c, o₁) :: ([(I, oI)] ++ news₁)) →
        wpAny (model prog w) A (execs body env) (CellStepL h₀ env.locals c [(I, oI)] I (J (i + 1)) { s₂ with heap := h, toks := tk }) E { s₂ with heap := h, toks := tk }) ∧
      ∀ h' tk m' o' news', Fr h₀ env.locals h' m' → News h₀ env.locals h' ((c, o') :: news') → (∀ p ∈ news', p.1 ≠ c) → (∃ v, o'.data = .cell v) → J vs.length m' news' → Q .next { s₂ with heap := h', toks := tk }) E s)
    (hs : ∀ x, foldedSetIterable iter env x = pure x := by intro _; rfl)
    (hE : PassesOwn (model prog w) A env E := by passes_own) :
    wpAny (model prog w) A (exec (.For (.Name x px) iter body [] pos) env) Q E s := by
  refine wpAny_For (wpAny_mono h (fun xv s₂ h₂ => ?_) fun _ _ e => e) hs
  obtain ⟨ax, vs, m, o, news, J, rfl, hl, F, N, hnc, hd, h0, step, hQ⟩ := h₂
  have hl2 : s₂.heap.IsList ax vs.toArray := hl.at fun o e => F.keep _ _ e
  have lta : @LT.lt Nat _ ax s₂.heap.objs.size := by obtain ⟨o, ho, _⟩ := hl2; exact Heap.lt_size ho
  refine wpAny_pyIter_list hl2 ?_
  have W := Walks.list (prog := prog) (w := w) hh s₂.heap.objs.size ax (Nat.ne_of_lt lta) vs.toArray
  obtain ⟨I, hIe⟩ : ∃ I, I = s₂.heap.objs.size := ⟨_, rfl⟩
  rw [← hIe] at W
  have hIL : I ≠ env.locals := by rw [hIe]; exact (Nat.ne_of_lt F.ns.lt).symm
  have hIc : I ≠ c := by rw [hIe]; exact (Nat.ne_of_lt (Heap.lt_size (N _ (.head _)).1)).symm
  have hI0 : h₀.get? I = none := by rw [hIe]; exact next_is_new F
  have hnw : ∀ p ∈ news, p.1 ≠ I ∧ p.1 ≠ c := fun p hp => ⟨by rw [hIe]; exact Nat.ne_of_lt (Heap.lt_size (N p (.tail _ hp)).1), hnc p hp⟩
  have axI : ax ≠ I := by rw [hIe]; exact Nat.ne_of_lt lta
  show codeAny (model prog w) A (.forLoop (.Name x px) (.ref s₂.heap.objs.size) body [] env) _ _
  rw [← hIe]
  have hst : Heap.IsListIter (s₂.heap.push { cls := .type "list_iterator", data := .fields #[.ref ax, .int 0 0] }) I ax 0 := by rw [hIe]; exact ⟨_, Heap.get?_push_size _ rfl, rfl, rfl⟩
  refine codeAny_forLoop (R := fun r s' => match r with | .ok f => Q f s' | .error e => cameBackBy (model prog w) A env E e s')
    (fun k s' => ∃ h' tk m' o' news' i, s' = { s₂ with heap := h', toks := tk } ∧ h'.IsListIter I ax i ∧ Fr h₀ env.locals h' m' ∧ News h₀ env.locals h' ((c, o') :: news') ∧ (∀ p ∈ news', p.1 ≠ I ∧ p.1 ≠ c) ∧ (∃ v, o'.data = .cell v) ∧ J i m' news' ∧ i ≤ vs.length ∧ k = vs.length + 1 - i) ?_ (vs.length + 1)
    ⟨_, s₂.toks, m, o, news, 0, rfl, hst, F.push _, fun p hp => ⟨Heap.get?_push_of_some _ (N p hp).1, (N p hp).2⟩, hnw, hd, h0, Nat.zero_le _, rfl⟩
  rintro k s' ⟨h', tk, m', o', news', i, rfl, hst', F', N', hnw', ⟨v₀, hd'⟩, hJ, hi, rfl⟩
  have next : ∀ h₁ : Heap, (∀ b o, b ∉ [I] → h'.get? b = some o → h₁.get? b = some o) → Fr h₀ env.locals h₁ m' ∧ News h₀ env.locals h₁ ((c, o') :: news') := fun h₁ hk₁ =>
    ⟨⟨F'.ns.at' fun o e => hk₁ _ o (fun hm => hIL (List.mem_singleton.mp hm).symm) e, fun b o e => hk₁ b o (fun hm => by rw [List.mem_singleton.mp hm, hI0] at e; cases e) (F'.keep b o e), F'.above⟩,
      fun p hp => ⟨hk₁ _ _ (fun hm => by
        rcases List.mem_cons.mp hp with rfl | hp
        · exact hIc (List.mem_singleton.mp hm).symm
        · exact (hnw' p hp).1 (List.mem_singleton.mp hm)) (N' p hp).1, (N' p hp).2⟩⟩
  have hl' : h'.IsList ax vs.toArray := hl.at fun o e => F'.keep _ _ e
  by_cases hlt : i < vs.length
  · refine W.item i _ _ _ (by simpa using hlt) ⟨hst', hl'⟩ fun v h₁ tk₁ hP hst₁ hk₁ => ?_
    obtain ⟨F₁, N₁⟩ := next h₁ hk₁
    obtain ⟨oI, hoI, hoI2⟩ := id hst₁.1
    have hp : (env.scope.kind == .class || (env.scope.kind == .module && env.locals != env.globals)) = false := by rw [hk]; rfl
    have N₁' : News h₀ env.locals h₁ ((c, o') :: ([(I, oI)] ++ news')) := by
      intro p hp
      rcases List.mem_cons.mp hp with rfl | hp
      · exact N₁ _ (.head _)
      · rcases List.mem_cons.mp hp with rfl | hp
        · exact ⟨hoI, hIL, hI0⟩
        · exact N₁ _ (.tail _ hp)
    have hoff : ∀ p ∈ [(I, oI)] ++ news', p.1 ≠ c := by
      intro p hp
      rcases List.mem_cons.mp hp with rfl | hp
      · exact hIc
      · exact (hnw' p hp).2
    refine wpAny_assign_Name (storeCell (o := o') F₁ N₁' hoff hd' hk hx hc fun h₂ o₂ F₂ N₂ hd₂ => ?_)
    refine wpAny_mono (wpAny_passesOwn hE (step i v m' o₂ I oI news' h₂ tk₁ (by simpa using hP) hJ hnw' hIc hd₂ F₂ N₂)) (fun f s₃ h₃ => ?_) fun _ _ e => e
    obtain ⟨rfl, h₃', tk₃, m₂, o₃, news₂, rfl, F₃, N₃, ha₃, hd₃, hJ₃⟩ := h₃
    refine ⟨vs.length + 1 - (i + 1), by omega, h₃', tk₃, m₂, o₃, news₂, i + 1, rfl, ⟨oI, (N₃ (I, oI) (.tail _ (.head _))).1, hoI2⟩, F₃, ?_, ha₃, hd₃, hJ₃, hlt, rfl⟩
    intro p hp
    rcases List.mem_cons.mp hp with rfl | hp
    · exact N₃ _ (.head _)
    · exact N₃ _ (.tail _ (.tail _ hp))
  · obtain rfl : i = vs.length := by omega
    have hst'' : h'.IsListIter I ax vs.toArray.size := by simpa using hst'
    refine W.done _ _ _ ⟨hst'', hl'⟩ fun h₁ tk₁ hk₁ => wpAny_execs_nil ?_
    obtain ⟨F₁, N₁⟩ := next h₁ hk₁
    exact hQ h₁ tk₁ m' o' news' F₁ N₁ (fun p hp => (hnw' p hp).2) ⟨v₀, hd'⟩ hJ
end
end Mine
namespace Mine
open PySem.Builtin

local macro_rules | `(tactic| walk_at "my steps") => `(tactic| repeat' (first | (k_unfold; (try dsimp only)) | ((fail_if_success (with_reducible show wpAny _ _ (pyIter _) _ _ _)); (fail_if_success (with_reducible show Exists _)); (fail_if_success (with_reducible show wpAny _ _ (exec (Stmt.For _ _ _ _ _) _) _ _ _)); (fail_if_success (with_reducible show wpAny _ _ (call (Value.ref _) _) _ _ _)); (fail_if_success (with_reducible show wpAny _ _ (PySem.eval (PySem.Expr.ListComp _ _ _ _) _) _ _ _)); (first | walk1 | (dsimp only; walk1)); (try dsimp only))))

local macro_rules | `(tactic| walk_at "compareOp IsNot") => `(tactic| (k_here; (refine wpAny_isNot_plain (by assumption) ?_)))
/-- a book, as the law's list holds it -/
structure Bk where
  (b A R : Addr)
  (vs rs : List Value)
  (ss : List Str)
  (de ra : Value)
  (k n m : Nat)
def BkAt (h : Heap) (d : Bk) : Prop := Book h d.b d.A d.R d.vs d.rs d.de d.ra d.k d.n d.m ∧ StrsAre d.vs d.ss
def inAll (bs : List Bk) (x : Str) : Bool := bs.all fun d => d.ss.any fun a => decide (x = a)
def lastOf (f : Bk → Value) (bs : List Bk) : Value := bs.foldl (fun acc d => if f d == .none then acc else f d) .none

theorem strs_fun {vs : List Value} {ss ss' : List Str} (h : StrsAre vs ss) : StrsAre vs ss' → ss = ss' := by
  induction h generalizing ss' with
  | nil => intro h'; cases h'; rfl
  | cons x t _ ih => intro h'; cases h' with | cons y u h2 => rw [ih h2]
theorem bk_same {h : Heap} {d e : Bk} (hd : BkAt h d) (he : BkAt h e) (hb : d.b = e.b) : d.ss = e.ss := by
  have h1 := hd.1.at_
  have h2 := he.1.at_
  rw [hb, h2] at h1
  have hA : d.A = e.A := by
    have := Option.some.inj h1
    simp only [W.listOf, Obj.mk.injEq, Data.seq.injEq] at this
    have := this.2.2.1.1
    simp at this
    exact this.1.symm
  have g1 := hd.1.ags
  have g2 := he.1.ags
  rw [hA, g2] at g1
  have hv : d.vs = e.vs := by
    have := Option.some.inj g1
    simp only [W.listOf, Obj.mk.injEq, Data.seq.injEq] at this
    have := this.2.2.1.1
    simpa using this.symm
  exact strs_fun hd.2 (hv ▸ he.2)
theorem eq_nil {prog : Program} {w : World} {A : Around} {E : Value → Shared → Prop} {s : Shared} {D l : Addr} {vs : List Value} {Q : Value → Shared → Prop} (hu : A.units < cLine) (hl : s.heap.IsList D vs.toArray) (hb : s.heap.IsList l #[])
    (h : Q (.bool vs.isEmpty) s) : wpAny (model prog w) A (compareOp .Eq (.ref D) (.ref l)) Q E s := by
  cases vs with
  | nil => exact SeqAt.eq_listAt (e := fun _ => true) hl hb rfl hu (fun j h1 _ => absurd h1 (Nat.not_lt_zero _)) h
  | cons v r => exact SeqAt.eq_list_lengthsAt hl hb (by simp) hu h
theorem app_list {prog : Program} {w : World} {A : Around} {E : Value → Shared → Prop} {s : Shared} {h₀ : Heap} {L D : Addr} {m : Str → Option Value} {vs : List Value} {n : Nat} {rest : List (Addr × Obj)} {v : Value} {Q : Value → Shared → Prop}
    (F : Fr h₀ L s.heap m) (N : News h₀ L s.heap ((D, W.listOf vs.toArray n) :: rest)) (hr : ∀ p ∈ rest, p.1 ≠ D) (hsz : vs.length ≤ 100000)
    (h : ∀ h' n', Fr h₀ L h' m → News h₀ L h' ((D, W.listOf (vs ++ [v]).toArray n') :: rest) → Q .none { s with heap := h' }) : wpAny (model prog w) A (call (.builtin "list.append") [.ref D, v]) Q E s := by
  have z := N (D, W.listOf vs.toArray n) (.head _)
  refine wpAny_list_append_plain (hsz := by rw [sizeLine_eq, List.size_toArray]; omega) ⟨n, z.1⟩ fun h' hl hs => ?_
  obtain ⟨n', hl⟩ := hl
  refine h h' n' ⟨F.ns.sameBut hs (Ne.symm z.2.1), fun b ob e => (hs.2 b (fun q => ?_)).trans (F.keep b ob e), F.above⟩ (N.setAt (own := []) (fun _ h => nomatch h) hr hs ?_)
  · rw [q, z.2.2] at e; cases e
  · rw [hl]; simp [W.listOf]
theorem strs_append {vs ws : List Value} {ss ts : List Str} (h : StrsAre vs ss) (h2 : StrsAre ws ts) : StrsAre (vs ++ ws) (ss ++ ts) := by
  induction h with
  | nil => exact h2
  | cons x t _ ih => exact .cons x t ih
theorem ne_base {h : Heap} {a b : Addr} {o : Obj} (ha : h.get? a = some o) (hb : h.get? b = none) : a ≠ b := by
  rintro rfl; rw [ha] at hb; cases hb
theorem mem_swap {α : Type} {a b : List α} {x : α} (h : x ∈ b ++ a) : x ∈ a ++ b := by
  rcases List.mem_append.mp h with h | h
  · exact List.mem_append_right _ h
  · exact List.mem_append_left _ h
theorem take_map_succ {β : Type} (f : Bk → List β) (l : List Bk) (i : Nat) (d : Bk) (h : l[i]? = some d) : (l.take (i + 1)).flatMap f = (l.take i).flatMap f ++ f d := by
  rw [List.take_add_one, h, List.flatMap_append]; simp
theorem lastOf_succ (f : Bk → Value) (l : List Bk) (i : Nat) (d : Bk) (h : l[i]? = some d) : lastOf f (l.take (i + 1)) = if f d == .none then lastOf f (l.take i) else f d := by
  rw [List.take_add_one, h]
  simp [lastOf, List.foldl_append]
theorem rules_len {bs : List Bk} (h : ∀ d ∈ bs, d.rs.length ≤ 100) : (bs.flatMap fun d => d.rs).length ≤ 100 * bs.length := by
  induction bs with
  | nil => simp
  | cons d l ih =>
    have h1 := h d (.head _)
    have h2 := ih fun e he => h e (.tail _ he)
    rw [List.flatMap_cons, List.length_append, List.length_cons]; omega
def ssAt (bs : List Bk) (b : Addr) : List Str := ((bs.find? fun d => d.b == b).map (·.ss)).getD []
theorem ssAt_eq {h : Heap} {bs : List Bk} (hB : ∀ d ∈ bs, BkAt h d) {d : Bk} (hd : d ∈ bs) : ssAt bs d.b = d.ss := by
  unfold ssAt
  cases q : bs.find? (fun e => e.b == d.b) with
  | none => exact absurd (List.find?_eq_none.mp q d hd) (by simp)
  | some e =>
    have h1 := List.mem_of_find?_eq_some q
    have h2 : (e.b == d.b) = true := List.find?_some (p := fun e : Bk => e.b == d.b) q
    exact (bk_same (hB e h1) (hB d hd) (eq_of_beq h2))
def pOut (bs : List Bk) (x : Str) : Value → Bool
  | .ref b => !((ssAt bs b).any fun a => decide (x = a))
  | _ => false
def pIn (x : Str) : Value → Bool
  | .str y _ => y == x
  | _ => false
theorem pIn_len {x : Str} {vs : List Value} {ss : List Str} (h : StrsAre vs ss) : ((vs.filter (pIn x)).length == 0) = !(ss.any fun a => decide (x = a)) := by
  induction h with
  | nil => rfl
  | cons y t _ ih =>
    rw [List.filter_cons, List.any_cons]
    have e : pIn x (.str y t) = decide (x = y) := by
      show (y == x) = _
      by_cases h : y = x
      · simp [h]
      · have h2 : ¬ x = y := fun e => h e.symm
        simp [h, h2]
    rw [e]
    cases hd : decide (x = y) with
    | true => simp
    | false => simpa using ih
theorem pOut_empty {h : Heap} {bs : List Bk} (hB : ∀ d ∈ bs, BkAt h d) (x : Str) : ((bs.map fun d => Value.ref d.b).filter (pOut bs x)).isEmpty = inAll bs x := by
  have key : ∀ l : List Bk, (∀ d ∈ l, d ∈ bs) → ((l.map fun d => Value.ref d.b).filter (pOut bs x)).isEmpty = inAll l x := by
    intro l
    induction l with
    | nil => intro _; rfl
    | cons d l ih =>
      intro hm
      rw [List.map_cons, List.filter_cons]
      have e : pOut bs x (.ref d.b) = !(d.ss.any fun a => decide (x = a)) := by
        show (!((ssAt bs d.b).any _)) = _
        rw [ssAt_eq hB (hm d (.head _))]
      rw [e]
      have ih' := ih fun e he => hm e (.tail _ he)
      unfold inAll at ih' ⊢
      rw [List.all_cons, ← ih']
      cases d.ss.any fun a => decide (x = a) <;> simp
  exact key bs fun _ h => h

set_option maxHeartbeats 8000000 in
theorem due_spec {prog : Program} {w : World} {mean : ExcName → Option Value} {mg mb : Str → Option Value} {A : Around} {s : Shared} {lb : Addr} {bs : List Bk} {d0 : Bk} {Q E : Value → Shared → Prop}
    (C : Cx (hd5.heap_39 w.params) hd5.view_39 (looseW hd5.view_39 []) mean mg mb A s.heap 14)
    (hl : s.heap.IsList lb ((d0 :: bs).map fun d => Value.ref d.b).toArray) (hB : ∀ d ∈ d0 :: bs, BkAt s.heap d) (hn : (d0 :: bs).length ≤ 10) (hs : ∀ d ∈ d0 :: bs, d.vs.length ≤ 100 ∧ d.rs.length ≤ 100)
    (hp : ∀ d ∈ d0 :: bs, PySem.plainIs d.de .none = true ∧ PySem.plainIs d.ra .none = true)
    (hQ : ∀ h' tk b A R vs k n m, s.heap.StaysIn h' → s.heap.get? b = none → s.heap.get? A = none → s.heap.get? R = none → Book h' b A R vs ((d0 :: bs).flatMap fun d => d.rs) (lastOf (·.de) (d0 :: bs)) (lastOf (·.ra) (d0 :: bs)) k n m → StrsAre vs (d0.ss.filter (inAll (d0 :: bs))) → Q (.ref b) { s with heap := h', toks := tk }) : wpAny (model prog w) A (call (.ref 82) [.ref lb]) Q E s := by
  refine fillK ?_
  k_fill
  intro _ _
  refine' fn_callC C ?k1 ?k2 ?k3 ?k4 ?k5 ?_ ?k6 ?k7 ?k8
  case k1 => k_is
  case k2 => k_is
  case k3 => exact rfl
  case k4 => exact rfl
  case k5 => decide +kernel
  case k6 => exact rfl
  case k7 => exact rfl
  case k8 => exact rfl
  intro L h₁ tk cells hLs hF hN hY
  have X := C.K
  have T := C.T
  k_cells hY
  replace hF := fr_as (m' := fun y => if y = Str.ofString "books" then some (.ref lb) else none) hF (by kernel_rfl)
  walk_at "my steps"
  rename Fr _ _ _ _ => hF1
  rename News _ _ _ _ => hN1
  rename_i oA dA lG _ lG1 _
  have hB0 := hB d0 (.head _)
  refine' For_list_cell s.heap ?q1 ?q2 ?q3 C.hh ?_ ?q4 ?q5
  case q1 => exact rfl
  case q2 => exact rfl
  case q3 => exact rfl
  case q4 => intro _; rfl
  case q5 => passes_own
  walk_at "my steps"
  refine item_list (vs := [.ref d0.A, .ref d0.R, d0.de, d0.ra]) ⟨_, hF1.keep _ _ hB0.1.at_, rfl, _, rfl⟩ (Int.le_refl _) (by decide) rfl ?_
  have hoG : ∀ p ∈ [(lG, W.listOf #[] 0)], p.1 ≠ L + 1 := by
    intro p hp
    rw [List.mem_singleton.mp hp]
    exact Ne.symm (Nat.ne_of_lt lG1)
  refine ⟨d0.A, d0.vs, _, oA, [(lG, W.listOf #[] 0)], fun i m news => (∀ y, m y = if y = Str.ofString "agents" then some (Value.ref lG) else if y = Str.ofString "books" then some (Value.ref lb) else none) ∧ ∃ vs c, news = [(lG, W.listOf (List.toArray vs) c)] ∧ StrsAre vs ((d0.ss.take i).filter (inAll (d0 :: bs))) ∧ vs.length ≤ i,
    rfl, ⟨_, hB0.1.ags, rfl, _, rfl⟩, hF1, news_push (hN1 _ (.tail _ (.head _))) (news_push (hN1 _ (.head _)) News.nil), hoG, ⟨_, dA⟩, ⟨fun _ => rfl, [], 0, rfl, .nil, Nat.le_refl _⟩, ?_, ?_⟩
  · rintro i v m₁ o₁ I oI news₁ h3 tk3 hv ⟨hm, vs, c, rfl, hvs, hvl⟩ hoff hIc hd₁ hF3 hN3
    obtain rfl : m₁ = fun y => if y = Str.ofString "agents" then some (Value.ref lG) else if y = Str.ofString "books" then some (Value.ref lb) else none := funext hm
    have hi : i < d0.ss.length := by rw [← hB0.2.length]; exact (List.getElem?_eq_some_iff.mp hv).1
    have hx : d0.ss[i]? = some d0.ss[i] := List.getElem?_eq_getElem hi
    obtain ⟨tx, hvx⟩ := hB0.2.get i _ hx
    obtain rfl : v = .str d0.ss[i] tx := by rw [hv] at hvx; exact Option.some.inj hvx
    have hvsK := Hid.mk hvs
    clear hvs hF1 hN1
    try dsimp only
    walk_at "my steps"
    refine' eval_filter (pOut (d0 :: bs) d0.ss[i]) C.hh ?r1 ?r2 ?r3 ?r4 ?r5 ?r6 ?_ ?r7
    case r1 => exact rfl
    case r2 => decide
    case r3 => exact rfl
    case r4 => decide +kernel
    case r5 => exact rfl
    case r6 => decide
    case r7 => intro _; rfl
    walk_at "my steps"
    refine ⟨lb, (d0 :: bs).map fun d => Value.ref d.b, rfl, hl.at fun o e => hF3.keep _ _ e, by rw [List.length_map]; omega, ?_, ?_⟩
    · intro C4 s4 m4 E4 v hv hn4 hx4 hk4
      obtain ⟨d, hd, rfl⟩ := List.mem_map.mp hv
      have hBd := hB d hd
      have hF4 := kept_fr hF3 fun b o e => hk4 b o e
      have hN4 := kept_news hN3 fun b o e => hk4 b o e
      walk_at "my steps"
      refine' eval_filter (pIn d0.ss[i]) C.hh ?z1 ?z2 ?z3 ?z4 ?z5 ?z6 ?_ ?z7
      case z1 => exact rfl
      case z2 => decide
      case z3 => exact rfl
      case z4 => decide +kernel
      case z5 => exact rfl
      case z6 => decide
      case z7 => intro _; rfl
      walk_at "my steps"
      refine item_list (vs := [.ref d.A, .ref d.R, d.de, d.ra]) ⟨_, hF4.keep _ _ hBd.1.at_, rfl, _, rfl⟩ (Int.le_refl _) (by decide) rfl ?_
      refine ⟨d.A, d.vs, rfl, ⟨_, hF4.keep _ _ hBd.1.ags, rfl, _, rfl⟩, by have := (hs d hd).1; omega, ?_, ?_⟩
      · intro C5 s5 m5 E5 v5 hv5 hn5 hx5 hk5
        obtain ⟨y, ty, rfl⟩ : ∃ y ty, v5 = Value.str y ty := by
          obtain ⟨j, hj⟩ := List.mem_iff_getElem?.mp hv5
          have hlt : j < d.ss.length := by rw [← hBd.2.length]; exact (List.getElem?_eq_some_iff.mp hj).1
          obtain ⟨ty, e⟩ := hBd.2.get j _ (List.getElem?_eq_getElem hlt)
          rw [hj] at e
          exact ⟨_, ty, Option.some.inj e⟩
        have hF5 := kept_fr hF4 fun b o e => hk5 b o e
        have hN5 := kept_news hN4 fun b o e => hk5 b o e
        walk_at "my steps"
        · exact ⟨_, _, rfl, fun _ _ e => e⟩
      · intro D5 h5 tk5 c5 hD5 hg5 hk5
        have hF5 := kept_fr hF4 fun b o e => hk5 b o e
        have hN5 := news_push (news_fresh hF4 hD5 hg5) (kept_news hN4 fun b o e => hk5 b o e)
        have hfl : (d.vs.filter (pIn d0.ss[i])).length ≤ 100 := Nat.le_trans (List.length_filter_le _ _) (hs d hd).1
        try dsimp only
        walk_at "my steps"
        refine PyProof.Rows.len_list (s := ⟨_, _, _, _, _⟩) (News.isList hN5 (.head _)) (by rw [List.size_toArray]; omega) ?_
        try dsimp only
        walk_at "my steps"
        · show _ = !((ssAt (d0 :: bs) d.b).any fun a => decide (d0.ss[i] = a))
          rw [ssAt_eq hB hd, ← pIn_len hBd.2, List.size_toArray]
          cases (d.vs.filter (pIn d0.ss[i])).length <;> rfl
        · exact ⟨h5, _, rfl, fun b o e => hk5 b o e⟩
    · intro D6 h6 tk6 c6 hD6 hg6 hk6
      have hF6 := kept_fr hF3 fun b o e => hk6 b o e
      have hN6 := news_push (news_fresh hF3 hD6 hg6) (kept_news hN3 fun b o e => hk6 b o e)
      clear hF3 hN3
      try dsimp only
      walk_at "my steps"
      rename Fr _ _ _ _ => hF7
      rename News _ _ _ _ => hN7
      refine eq_nil (by have := C.un; show A.units + 3 < _; omega) (News.isList hN7 (.tail _ (.head _))) (News.isList hN7 (.head _)) ?_
      rw [pOut_empty hB]
      try dsimp only
      have hN8 := news_push (hN7 _ (.tail _ (.tail _ (.tail _ (.tail _ (.head _)))))) (news_push (hN7 _ (.tail _ (.tail _ (.head _)))) (news_push (hN7 _ (.tail _ (.tail _ (.tail _ (.head _))))) News.nil))
      have hoG2 := hoff (lG, W.listOf vs.toArray c) (.head _)
      clear hN7
      have hnext : ∀ {vs' : List Value} {c' : Nat} {h' : Heap} {tk' : Nat}, Fr s.heap L h' (fun y => if y = Str.ofString "agents" then some (Value.ref lG) else if y = Str.ofString "books" then some (Value.ref lb) else none) →
          News s.heap L h' [(lG, W.listOf (List.toArray vs') c'), (L + 1, o₁), (I, oI)] → StrsAre vs' ((d0.ss.take (i + 1)).filter (inAll (d0 :: bs))) → vs'.length ≤ i + 1 →
          CellStepL s.heap L (L + 1) [(I, oI)] I (fun m news => (∀ y, m y = if y = Str.ofString "agents" then some (Value.ref lG) else if y = Str.ofString "books" then some (Value.ref lb) else none) ∧ ∃ vs c, news = [(lG, W.listOf (List.toArray vs) c)] ∧ StrsAre vs ((d0.ss.take (i + 1)).filter (inAll (d0 :: bs))) ∧ vs.length ≤ i + 1) { heap := h3, gens := s.gens, drawn := s.drawn, toks := tk3, os := s.os } .next { heap := h', gens := s.gens, drawn := s.drawn, toks := tk', os := s.os } := by
        intro vs' c' h' tk' F' N' hv' hl'
        refine ⟨rfl, h', tk', _, o₁, [(lG, W.listOf (List.toArray vs') c')], rfl, F', news_push (N' _ (.tail _ (.head _))) (news_push (N' _ (.tail _ (.tail _ (.head _)))) (news_push (N' _ (.head _)) News.nil)), ?_, ⟨_, hd₁⟩, fun _ => rfl, vs', c', rfl, hv', hl'⟩
        intro p hp
        rw [List.mem_singleton.mp hp]
        exact hoG2
      have htake : (d0.ss.take (i + 1)).filter (inAll (d0 :: bs)) = (d0.ss.take i).filter (inAll (d0 :: bs)) ++ (if inAll (d0 :: bs) d0.ss[i] then [d0.ss[i]] else []) := by
        rw [List.take_add_one, hx, List.filter_append]
        simp only [Option.toList_some, List.filter_cons, List.filter_nil]
      walk_at "my steps"
      · rename inAll (d0 :: bs) d0.ss[i] = true => hin
        refine app_list hF7 hN8 ?_ (by have := (hs d0 (.head _)).1; have := hB0.2.length; omega) fun h9 n9 hF9 hN9 => ?_
        · intro p hp
          simp only [List.mem_cons, List.not_mem_nil, or_false] at hp
          rcases hp with rfl | rfl
          · exact Ne.symm hoG2.2
          · exact Ne.symm hoG2.1
        try dsimp only
        walk_at "my steps"
        exact hnext hF9 hN9 (by rw [htake, hin, if_pos rfl]; exact strs_append hvsK.out (.cons _ _ .nil)) (by rw [List.length_append]; exact Nat.succ_le_succ hvl)
      · rename inAll (d0 :: bs) d0.ss[i] = false => hin
        exact hnext hF7 hN8 (by rw [htake, hin, if_neg (by decide), List.append_nil]; exact hvsK.out) (Nat.le_succ_of_le hvl)
  · rintro h3 tk3 m₁ o₁ news₁ hF3 hN3 hnc ⟨v₁, hd₁⟩ ⟨hm, vs, c, rfl, hvs, hvl⟩
    obtain rfl : m₁ = fun y => if y = Str.ofString "agents" then some (Value.ref lG) else if y = Str.ofString "books" then some (Value.ref lb) else none := funext hm
    rw [hB0.2.length, List.take_length] at hvs
    have hvsK := Hid.mk hvs
    clear hvs hF1 hN1 hm
    try dsimp only
    walk_at "my steps"
    rename Fr _ _ _ _ => hF4
    rename News _ _ _ _ => hN4
    rename_i dR _ lR dD _ _ _ lD _
    have hLb : L ≠ lb := by
      obtain ⟨o, ho, _⟩ := hl
      rw [hLs]; exact (Nat.ne_of_lt (Heap.lt_size ho)).symm
    have fR := (hN4 (dR, _) (.tail _ (.head _))).2.2
    have fD := (hN4 (dD, _) (.head _)).2.2
    have fG := (hN4 (lG, _) (.tail _ (.tail _ (.tail _ (.head _))))).2.2
    have nDR : dD ≠ dR := (Nat.ne_of_lt lD.1).symm
    have n1R : L + 1 ≠ dR := Nat.ne_of_lt lR.1
    have nGR : lG ≠ dR := Nat.ne_of_lt lR.2
    have n1D : L + 1 ≠ dD := Nat.ne_of_lt lD.2.1
    have nGD : lG ≠ dD := Nat.ne_of_lt lD.2.2
    clear lR lD
    refine' For_invV s.heap ?q1 ?q2 ?_ ?q3 ?q4
    case q1 => exact rfl
    case q2 => exact rfl
    case q3 => intro _; rfl
    case q4 => passes_own
    walk_at "my steps"
    refine iter_listK [Str.ofString "rule", Str.ofString "k"] (fun i news => ∃ cR cD, news = [(dR, W.listOf (((d0 :: bs).take i).flatMap fun d => d.rs).toArray cR), (dD, W.listOf #[.ref lG, .ref dR, lastOf (·.de) ((d0 :: bs).take i), lastOf (·.ra) ((d0 :: bs).take i)] cD), (L + 1, o₁), (lG, W.listOf vs.toArray c)]) C.hh (hl.at fun o e => hF4.keep _ _ e) hLb hF4
      (news_push (hN4 _ (.tail _ (.head _))) (news_push (hN4 _ (.head _)) (news_push (hN4 _ (.tail _ (.tail _ (.head _)))) (news_push (hN4 _ (.tail _ (.tail _ (.tail _ (.head _))))) News.nil)))) ⟨_, _, rfl⟩ ?_ ?_
    · rintro i v u news₁ h5 tk5 I own hi hv ⟨cR, cD, rfl⟩ hoff hown hlt hF5 hN5
      simp only [overs] at hF5
      have hi' : i < (d0 :: bs).length := by simpa using hi
      obtain ⟨d, hd⟩ : ∃ d, (d0 :: bs)[i]? = some d := ⟨_, List.getElem?_eq_getElem hi'⟩
      have hdm : d ∈ d0 :: bs := List.mem_of_getElem? hd
      have hBd := hB d hdm
      obtain rfl : v = .ref d.b := by
        have e : ((d0 :: bs).map fun d => Value.ref d.b)[i]? = some v := by simpa using hv
        rw [List.getElem?_map, hd] at e
        exact (Option.some.inj e).symm
      clear hF4 hN4
      try dsimp only
      walk_at "my steps"
      have lbB : ∃ o, s.heap.get? lb = some o := by obtain ⟨o, ho, _⟩ := hl; exact ⟨o, ho⟩
      have hownR : ∀ p ∈ own, p.1 ≠ dR := by
        intro p hp
        rcases hown p hp with e | e
        · rw [e]; exact Ne.symm (hoff (dR, _) (.head _))
        · rw [e]; exact ne_base lbB.choose_spec fR
      have hownD : ∀ p ∈ own, p.1 ≠ dD := by
        intro p hp
        rcases hown p hp with e | e
        · rw [e]; exact Ne.symm (hoff (dD, _) (.tail _ (.head _)))
        · rw [e]; exact ne_base lbB.choose_spec fD
      have hoffR := hoff (dR, _) (.head _)
      have hoffD := hoff (dD, _) (.tail _ (.head _))
      have hoffG := hoff (lG, _) (.tail _ (.tail _ (.tail _ (.head _))))
      have hoff1 := hoff (L + 1, _) (.tail _ (.tail _ (.head _)))
      have hLR : L ≠ d.R := by
        rw [hLs]; exact (Nat.ne_of_lt (Heap.lt_size hBd.1.rus)).symm
      refine' For_invV s.heap ?q1 ?q2 ?_ ?q3 ?q4
      case q1 => exact rfl
      case q2 => exact rfl
      case q3 => intro _; rfl
      case q4 => passes_own
      walk_at "my steps"
      refine item_list (vs := [.ref d.A, .ref d.R, d.de, d.ra]) ⟨_, hF5.keep _ _ hBd.1.at_, rfl, _, rfl⟩ (by decide) (by decide) rfl ?_
      refine iter_listK [] (fun j news => ∃ cR, news = (dR, W.listOf ((((d0 :: bs).take i).flatMap fun d => d.rs) ++ d.rs.take j).toArray cR) :: (dD, W.listOf #[.ref lG, .ref dR, lastOf (·.de) ((d0 :: bs).take i), lastOf (·.ra) ((d0 :: bs).take i)] cD) :: (L + 1, o₁) :: (lG, W.listOf vs.toArray c) :: own) C.hh ⟨_, hF5.keep _ _ hBd.1.rus, rfl, _, rfl⟩ hLR hF5 hN5 ⟨cR, by simp⟩ ?_ ?_
      · rintro j vj u2 news₂ h6 tk6 I2 own2 hj hvj ⟨cR2, rfl⟩ hoff2 hown2 hlt2 hF6 hN6
        simp only [overs] at hF6
        have hjr : d.rs[j]? = some vj := by simpa using hvj
        clear hF5 hN5
        try dsimp only
        walk_at "my steps"
        have hRl : (((d0 :: bs).take i).flatMap fun d => d.rs).length ≤ 1000 := by
          refine Nat.le_trans (rules_len fun e he => (hs e (List.mem_of_mem_take he)).2) ?_
          have := List.length_take_le i (d0 :: bs)
          omega
        have hrsl := (hs d hdm).2
        refine app_list (rest := (dD, W.listOf #[.ref lG, .ref dR, lastOf (·.de) ((d0 :: bs).take i), lastOf (·.ra) ((d0 :: bs).take i)] cD) :: (L + 1, o₁) :: (lG, W.listOf vs.toArray c) :: (own ++ own2)) hF6 hN6 ?_ (by rw [List.length_append]; have := List.length_take_le' j d.rs; omega) fun h7 n7 hF7 hN7 => ?_
        · intro p hp
          simp only [List.mem_cons, List.mem_append] at hp
          rcases hp with rfl | rfl | rfl | hp | hp
          · exact nDR
          · exact n1R
          · exact nGR
          · exact hownR p hp
          · rcases hown2 p hp with e | e
            · rw [e]; exact Ne.symm (hoff2 (dR, _) (.head _))
            · rw [e]; exact ne_base hBd.1.rus fR
        try dsimp only
        walk_at "my steps"
        have hoff2R := hoff2 (dR, _) (.head _)
        have etk : ((((d0 :: bs).take i).flatMap fun d => d.rs) ++ d.rs.take j) ++ [vj] = (((d0 :: bs).take i).flatMap fun d => d.rs) ++ d.rs.take (j + 1) := by
          rw [List.take_add_one, hjr, List.append_assoc]; rfl
        rw [etk] at hN7
        refine LoopStepU.intro hF7 (news₂ := (dR, W.listOf ((((d0 :: bs).take i).flatMap fun d => d.rs) ++ d.rs.take (j + 1)).toArray n7) :: (dD, W.listOf #[.ref lG, .ref dR, lastOf (·.de) ((d0 :: bs).take i), lastOf (·.ra) ((d0 :: bs).take i)] cD) :: (L + 1, o₁) :: (lG, W.listOf vs.toArray c) :: own) (fun p hp => hN7 p (mem_swap hp)) ?_ ⟨?_, n7, rfl⟩
        · intro p hp
          rw [List.mem_singleton]
          rcases List.mem_cons.mp hp with rfl | hp
          · exact hoff2R
          · exact hoff2 p (.tail _ hp)
        · intro y hy
          simp only [List.mem_cons, List.not_mem_nil, or_false] at hy
          simp only [hy, if_false]
      · rintro u2 news₂ h6 tk6 ⟨cR2, rfl⟩ hF6 hN6
        simp only [overs] at hF6
        have hN6' : News s.heap L h6 ((dR, W.listOf ((((d0 :: bs).take (i + 1)).flatMap fun d => d.rs)).toArray cR2) :: (dD, W.listOf #[.ref lG, .ref dR, lastOf (·.de) ((d0 :: bs).take i), lastOf (·.ra) ((d0 :: bs).take i)] cD) :: (L + 1, o₁) :: (lG, W.listOf vs.toArray c) :: own) := by
          have e : (((d0 :: bs).take i).flatMap fun d => d.rs) ++ d.rs.take d.rs.toArray.size = ((d0 :: bs).take (i + 1)).flatMap fun d => d.rs := by
            rw [take_map_succ _ _ _ _ hd, List.size_toArray, List.take_length]
          rw [← e]; exact hN6
        clear hF5 hN5 hN6
        try dsimp only
        walk_at "my steps"
        refine' For_invV s.heap ?q1 ?q2 ?_ ?q3 ?q4
        case q1 => exact rfl
        case q2 => exact rfl
        case q3 => intro _; rfl
        case q4 => passes_own
        walk_at "my steps"
        rename Fr _ _ _ _ => hF7
        rename News _ _ _ _ => hN7
        have hZ := hN7 _ (.head _)
        rename_i dT _ lT
        have hTD : dT ≠ dD := Ne.symm (Nat.ne_of_lt lT.2.1)
        refine iter_tupleK [] (fun j news => ∃ cD, news = (dR, W.listOf ((((d0 :: bs).take (i + 1)).flatMap fun d => d.rs)).toArray cR2) :: (dD, W.listOf [.ref lG, .ref dR, (if 1 ≤ j then lastOf (·.de) ((d0 :: bs).take (i + 1)) else lastOf (·.de) ((d0 :: bs).take i)), (if 2 ≤ j then lastOf (·.ra) ((d0 :: bs).take (i + 1)) else lastOf (·.ra) ((d0 :: bs).take i))].toArray cD) :: (L + 1, o₁) :: (lG, W.listOf vs.toArray c) :: own) C.hh ⟨_, hZ.1, rfl, _, rfl⟩ (Ne.symm hZ.2.1) hF7 (fun p hp => hN7 p (.tail _ hp)) ⟨cD, rfl⟩ ?_ ?_
        · rintro j vj u3 news₃ h8 tk8 I3 own3 hj hvj ⟨cD3, rfl⟩ hoff3 hown3 hlt3 hF8 hN8
          simp only [overs] at hF8
          have hj2 : j = 0 ∨ j = 1 := by have : j < 2 := hj; omega
          have hp1 := (hp d hdm).1
          have hp2 := (hp d hdm).2
          clear hF7 hN7 hZ
          have hbk : ∀ {h : Heap} {m : Str → Option Value}, Fr s.heap L h m → h.IsList d.b [Value.ref d.A, .ref d.R, d.de, d.ra].toArray := fun F => ⟨_, F.keep _ _ hBd.1.at_, rfl, _, rfl⟩
          have hoff3R := hoff3 (dR, _) (.head _)
          have hoff3D := hoff3 (dD, _) (.tail _ (.head _))
          have hown3D : ∀ p ∈ own3, p.1 ≠ dD := by
            intro p hp
            rcases hown3 p hp with e | e
            · rw [e]; exact Ne.symm hoff3D
            · rw [e]; exact hTD
          rcases hj2 with rfl | rfl
          · obtain ⟨tj, rfl⟩ : ∃ t, vj = .int 2 t := ⟨_, (Option.some.inj hvj).symm⟩
            try dsimp only
            walk_at "my steps"
            refine item_list (vs := [.ref d.A, .ref d.R, d.de, d.ra]) (hbk hF8) (by decide) (by decide) rfl ?_
            walk_at "my steps"
            · rename (d.de == Value.none) = true => hz
              have e1 : lastOf (·.de) ((d0 :: bs).take (i + 1)) = lastOf (·.de) ((d0 :: bs).take i) := by rw [lastOf_succ _ _ _ _ hd, if_pos hz]
              have e2 : [Value.ref lG, .ref dR, (if 1 ≤ 0 then lastOf (·.de) ((d0 :: bs).take (i + 1)) else lastOf (·.de) ((d0 :: bs).take i)), (if 2 ≤ 0 then lastOf (·.ra) ((d0 :: bs).take (i + 1)) else lastOf (·.ra) ((d0 :: bs).take i))] = [Value.ref lG, .ref dR, (if 1 ≤ 0 + 1 then lastOf (·.de) ((d0 :: bs).take (i + 1)) else lastOf (·.de) ((d0 :: bs).take i)), (if 2 ≤ 0 + 1 then lastOf (·.ra) ((d0 :: bs).take (i + 1)) else lastOf (·.ra) ((d0 :: bs).take i))] := by rw [e1]; simp
              rw [e2] at hN8
              refine LoopStepU.intro hF8 (news₂ := (dR, W.listOf ((((d0 :: bs).take (i + 1)).flatMap fun d => d.rs)).toArray cR2) :: (dD, W.listOf (List.toArray [Value.ref lG, .ref dR, (if 1 ≤ 0 + 1 then lastOf (·.de) ((d0 :: bs).take (i + 1)) else lastOf (·.de) ((d0 :: bs).take i)), (if 2 ≤ 0 + 1 then lastOf (·.ra) ((d0 :: bs).take (i + 1)) else lastOf (·.ra) ((d0 :: bs).take i))]) cD3) :: (L + 1, o₁) :: (lG, W.listOf vs.toArray c) :: own) (fun p hp => hN8 p (mem_swap hp)) (fun p hp => ?_) ⟨?_, cD3, rfl⟩
              · rw [List.mem_singleton]
                rcases List.mem_cons.mp hp with rfl | hp
                · exact hoff3R
                · rcases List.mem_cons.mp hp with rfl | hp
                  · exact hoff3D
                  · exact hoff3 p (.tail _ (.tail _ hp))
              · intro y hy
                simp only [List.mem_cons, List.not_mem_nil, or_false] at hy
                simp only [hy, if_false]
            · rename (d.de == Value.none) = false => hz
              refine item_list (vs := [.ref d.A, .ref d.R, d.de, d.ra]) (hbk hF8) (by decide) (by decide) rfl ?_
              walk_at "my steps"
              refine set_list (D := dD) (vs := [Value.ref lG, .ref dR, (if 1 ≤ 0 then lastOf (·.de) ((d0 :: bs).take (i + 1)) else lastOf (·.de) ((d0 :: bs).take i)), (if 2 ≤ 0 then lastOf (·.ra) ((d0 :: bs).take (i + 1)) else lastOf (·.ra) ((d0 :: bs).take i))]) (n := cD3) (rest := (dR, W.listOf ((((d0 :: bs).take (i + 1)).flatMap fun d => d.rs)).toArray cR2) :: (L + 1, o₁) :: (lG, W.listOf vs.toArray c) :: (own ++ own3)) hF8 (fun p hp => hN8 p ?_) ?_ (by decide) (by decide) (by simp) fun h9 hF9 hN9 => ?_
              · rcases List.mem_cons.mp hp with rfl | hp
                · exact .tail _ (.head _)
                · rcases List.mem_cons.mp hp with rfl | hp
                  · exact .head _
                  · exact .tail _ (.tail _ hp)
              · intro p hp
                rcases List.mem_cons.mp hp with rfl | hp
                · exact Ne.symm nDR
                · rcases List.mem_cons.mp hp with rfl | hp
                  · exact n1D
                  · rcases List.mem_cons.mp hp with rfl | hp
                    · exact nGD
                    · rcases List.mem_append.mp hp with hp | hp
                      · exact hownD p hp
                      · exact hown3D p hp
              try dsimp only
              walk_at "my steps"
              have e1 : lastOf (·.de) ((d0 :: bs).take (i + 1)) = d.de := by rw [lastOf_succ _ _ _ _ hd, hz]; rfl
              have e2 : [Value.ref lG, .ref dR, (if 1 ≤ 0 then lastOf (·.de) ((d0 :: bs).take (i + 1)) else lastOf (·.de) ((d0 :: bs).take i)), (if 2 ≤ 0 then lastOf (·.ra) ((d0 :: bs).take (i + 1)) else lastOf (·.ra) ((d0 :: bs).take i))].set (Int.toNat 2) d.de = [Value.ref lG, .ref dR, (if 1 ≤ 0 + 1 then lastOf (·.de) ((d0 :: bs).take (i + 1)) else lastOf (·.de) ((d0 :: bs).take i)), (if 2 ≤ 0 + 1 then lastOf (·.ra) ((d0 :: bs).take (i + 1)) else lastOf (·.ra) ((d0 :: bs).take i))] := by rw [e1]; simp
              rw [e2] at hN9
              refine LoopStepU.intro hF9 (news₂ := (dR, W.listOf ((((d0 :: bs).take (i + 1)).flatMap fun d => d.rs)).toArray cR2) :: (dD, W.listOf (List.toArray [Value.ref lG, .ref dR, (if 1 ≤ 0 + 1 then lastOf (·.de) ((d0 :: bs).take (i + 1)) else lastOf (·.de) ((d0 :: bs).take i)), (if 2 ≤ 0 + 1 then lastOf (·.ra) ((d0 :: bs).take (i + 1)) else lastOf (·.ra) ((d0 :: bs).take i))]) cD3) :: (L + 1, o₁) :: (lG, W.listOf vs.toArray c) :: own) (fun p hp => hN9 p ?_) (fun p hp => ?_) ⟨?_, cD3, rfl⟩
              · rcases List.mem_append.mp hp with hp | hp
                · exact .tail _ (.tail _ (.tail _ (.tail _ (List.mem_append_right _ hp))))
                · rcases List.mem_cons.mp hp with rfl | hp
                  · exact .tail _ (.head _)
                  · rcases List.mem_cons.mp hp with rfl | hp
                    · exact .head _
                    · rcases List.mem_cons.mp hp with rfl | hp
                      · exact .tail _ (.tail _ (.head _))
                      · rcases List.mem_cons.mp hp with rfl | hp
                        · exact .tail _ (.tail _ (.tail _ (.head _)))
                        · exact .tail _ (.tail _ (.tail _ (.tail _ (List.mem_append_left _ hp))))
              · rw [List.mem_singleton]
                rcases List.mem_cons.mp hp with rfl | hp
                · exact hoff3R
                · rcases List.mem_cons.mp hp with rfl | hp
                  · exact hoff3D
                  · exact hoff3 p (.tail _ (.tail _ hp))
              · intro y hy
                simp only [List.mem_cons, List.not_mem_nil, or_false] at hy
                simp only [hy, if_false]
          · obtain ⟨tj, rfl⟩ : ∃ t, vj = .int 3 t := ⟨_, (Option.some.inj hvj).symm⟩
            try dsimp only
            walk_at "my steps"
            refine item_list (vs := [.ref d.A, .ref d.R, d.de, d.ra]) (hbk hF8) (by decide) (by decide) rfl ?_
            walk_at "my steps"
            · rename (d.ra == Value.none) = true => hz
              have e1 : lastOf (·.ra) ((d0 :: bs).take (i + 1)) = lastOf (·.ra) ((d0 :: bs).take i) := by rw [lastOf_succ _ _ _ _ hd, if_pos hz]
              have e2 : [Value.ref lG, .ref dR, (if 1 ≤ 1 then lastOf (·.de) ((d0 :: bs).take (i + 1)) else lastOf (·.de) ((d0 :: bs).take i)), (if 2 ≤ 1 then lastOf (·.ra) ((d0 :: bs).take (i + 1)) else lastOf (·.ra) ((d0 :: bs).take i))] = [Value.ref lG, .ref dR, (if 1 ≤ 1 + 1 then lastOf (·.de) ((d0 :: bs).take (i + 1)) else lastOf (·.de) ((d0 :: bs).take i)), (if 2 ≤ 1 + 1 then lastOf (·.ra) ((d0 :: bs).take (i + 1)) else lastOf (·.ra) ((d0 :: bs).take i))] := by rw [e1]; simp
              rw [e2] at hN8
              refine LoopStepU.intro hF8 (news₂ := (dR, W.listOf ((((d0 :: bs).take (i + 1)).flatMap fun d => d.rs)).toArray cR2) :: (dD, W.listOf (List.toArray [Value.ref lG, .ref dR, (if 1 ≤ 1 + 1 then lastOf (·.de) ((d0 :: bs).take (i + 1)) else lastOf (·.de) ((d0 :: bs).take i)), (if 2 ≤ 1 + 1 then lastOf (·.ra) ((d0 :: bs).take (i + 1)) else lastOf (·.ra) ((d0 :: bs).take i))]) cD3) :: (L + 1, o₁) :: (lG, W.listOf vs.toArray c) :: own) (fun p hp => hN8 p (mem_swap hp)) (fun p hp => ?_) ⟨?_, cD3, rfl⟩
              · rw [List.mem_singleton]
                rcases List.mem_cons.mp hp with rfl | hp
                · exact hoff3R
                · rcases List.mem_cons.mp hp with rfl | hp
                  · exact hoff3D
                  · exact hoff3 p (.tail _ (.tail _ hp))
              · intro y hy
                simp only [List.mem_cons, List.not_mem_nil, or_false] at hy
                simp only [hy, if_false]
            · rename (d.ra == Value.none) = false => hz
              refine item_list (vs := [.ref d.A, .ref d.R, d.de, d.ra]) (hbk hF8) (by decide) (by decide) rfl ?_
              walk_at "my steps"
              refine set_list (D := dD) (vs := [Value.ref lG, .ref dR, (if 1 ≤ 1 then lastOf (·.de) ((d0 :: bs).take (i + 1)) else lastOf (·.de) ((d0 :: bs).take i)), (if 2 ≤ 1 then lastOf (·.ra) ((d0 :: bs).take (i + 1)) else lastOf (·.ra) ((d0 :: bs).take i))]) (n := cD3) (rest := (dR, W.listOf ((((d0 :: bs).take (i + 1)).flatMap fun d => d.rs)).toArray cR2) :: (L + 1, o₁) :: (lG, W.listOf vs.toArray c) :: (own ++ own3)) hF8 (fun p hp => hN8 p ?_) ?_ (by decide) (by decide) (by simp) fun h9 hF9 hN9 => ?_
              · rcases List.mem_cons.mp hp with rfl | hp
                · exact .tail _ (.head _)
                · rcases List.mem_cons.mp hp with rfl | hp
                  · exact .head _
                  · exact .tail _ (.tail _ hp)
              · intro p hp
                rcases List.mem_cons.mp hp with rfl | hp
                · exact Ne.symm nDR
                · rcases List.mem_cons.mp hp with rfl | hp
                  · exact n1D
                  · rcases List.mem_cons.mp hp with rfl | hp
                    · exact nGD
                    · rcases List.mem_append.mp hp with hp | hp
                      · exact hownD p hp
                      · exact hown3D p hp
              try dsimp only
              walk_at "my steps"
              have e1 : lastOf (·.ra) ((d0 :: bs).take (i + 1)) = d.ra := by rw [lastOf_succ _ _ _ _ hd, hz]; rfl
              have e2 : [Value.ref lG, .ref dR, (if 1 ≤ 1 then lastOf (·.de) ((d0 :: bs).take (i + 1)) else lastOf (·.de) ((d0 :: bs).take i)), (if 2 ≤ 1 then lastOf (·.ra) ((d0 :: bs).take (i + 1)) else lastOf (·.ra) ((d0 :: bs).take i))].set (Int.toNat 3) d.ra = [Value.ref lG, .ref dR, (if 1 ≤ 1 + 1 then lastOf (·.de) ((d0 :: bs).take (i + 1)) else lastOf (·.de) ((d0 :: bs).take i)), (if 2 ≤ 1 + 1 then lastOf (·.ra) ((d0 :: bs).take (i + 1)) else lastOf (·.ra) ((d0 :: bs).take i))] := by rw [e1]; simp
              rw [e2] at hN9
              refine LoopStepU.intro hF9 (news₂ := (dR, W.listOf ((((d0 :: bs).take (i + 1)).flatMap fun d => d.rs)).toArray cR2) :: (dD, W.listOf (List.toArray [Value.ref lG, .ref dR, (if 1 ≤ 1 + 1 then lastOf (·.de) ((d0 :: bs).take (i + 1)) else lastOf (·.de) ((d0 :: bs).take i)), (if 2 ≤ 1 + 1 then lastOf (·.ra) ((d0 :: bs).take (i + 1)) else lastOf (·.ra) ((d0 :: bs).take i))]) cD3) :: (L + 1, o₁) :: (lG, W.listOf vs.toArray c) :: own) (fun p hp => hN9 p ?_) (fun p hp => ?_) ⟨?_, cD3, rfl⟩
              · rcases List.mem_append.mp hp with hp | hp
                · exact .tail _ (.tail _ (.tail _ (.tail _ (List.mem_append_right _ hp))))
                · rcases List.mem_cons.mp hp with rfl | hp
                  · exact .tail _ (.head _)
                  · rcases List.mem_cons.mp hp with rfl | hp
                    · exact .head _
                    · rcases List.mem_cons.mp hp with rfl | hp
                      · exact .tail _ (.tail _ (.head _))
                      · rcases List.mem_cons.mp hp with rfl | hp
                        · exact .tail _ (.tail _ (.tail _ (.head _)))
                        · exact .tail _ (.tail _ (.tail _ (.tail _ (List.mem_append_left _ hp))))
              · rw [List.mem_singleton]
                rcases List.mem_cons.mp hp with rfl | hp
                · exact hoff3R
                · rcases List.mem_cons.mp hp with rfl | hp
                  · exact hoff3D
                  · exact hoff3 p (.tail _ (.tail _ hp))
              · intro y hy
                simp only [List.mem_cons, List.not_mem_nil, or_false] at hy
                simp only [hy, if_false]
        · rintro u3 news₃ h8 tk8 ⟨cD3, rfl⟩ hF8 hN8
          simp only [overs] at hF8
          have e1 : W.listOf (List.toArray [Value.ref lG, .ref dR, (if 1 ≤ #[Value.int 2 tk6, Value.int 3 (tk6 + 1)].size then lastOf (·.de) ((d0 :: bs).take (i + 1)) else lastOf (·.de) ((d0 :: bs).take i)), (if 2 ≤ #[Value.int 2 tk6, Value.int 3 (tk6 + 1)].size then lastOf (·.ra) ((d0 :: bs).take (i + 1)) else lastOf (·.ra) ((d0 :: bs).take i))]) cD3 = W.listOf #[.ref lG, .ref dR, lastOf (·.de) ((d0 :: bs).take (i + 1)), lastOf (·.ra) ((d0 :: bs).take (i + 1))] cD3 := rfl
          have hN9 : News s.heap L h8 ((dR, W.listOf ((((d0 :: bs).take (i + 1)).flatMap fun d => d.rs)).toArray cR2) :: (dD, W.listOf #[.ref lG, .ref dR, lastOf (·.de) ((d0 :: bs).take (i + 1)), lastOf (·.ra) ((d0 :: bs).take (i + 1))] cD3) :: (L + 1, o₁) :: (lG, W.listOf vs.toArray c) :: own) := by
            rw [← e1]; exact hN8
          clear hN8 hF7 hN7 hZ
          try dsimp only
          walk_at "my steps"
          refine LoopStepU.intro hF8 (news₂ := [(dR, W.listOf ((((d0 :: bs).take (i + 1)).flatMap fun d => d.rs)).toArray cR2), (dD, W.listOf #[.ref lG, .ref dR, lastOf (·.de) ((d0 :: bs).take (i + 1)), lastOf (·.ra) ((d0 :: bs).take (i + 1))] cD3), (L + 1, o₁), (lG, W.listOf vs.toArray c)]) (fun p hp => hN9 p (mem_swap hp)) (fun p hp => ?_) ⟨?_, cR2, cD3, rfl⟩
          · rw [List.mem_singleton]
            simp only [List.mem_cons, List.not_mem_nil, or_false] at hp
            rcases hp with rfl | rfl | rfl | rfl
            · exact hoffR
            · exact hoffD
            · exact hoff1
            · exact hoffG
          · intro y hy
            simp only [List.mem_cons, List.not_mem_nil, or_false, not_or] at hy
            simp only [hy, if_false]
    · rintro u news₁ h5 tk5 ⟨cR, cD, rfl⟩ hF5 hN5
      simp only [overs] at hF5
      clear hF4 hN4
      try dsimp only
      walk_at "my steps"
      have ez : ((d0 :: bs).map fun d => Value.ref d.b).toArray.size = (d0 :: bs).length := by simp
      rw [ez, List.take_length] at hN5
      exact hQ _ _ _ _ _ _ _ _ _ (fun b o e => hF5.keep b o e) fD fG fR ⟨(hN5 _ (.tail _ (.head _))).1, (hN5 _ (.tail _ (.tail _ (.tail _ (.head _))))).1, (hN5 _ (.head _)).1⟩ hvsK.out
end Mine
namespace Mine
open PySem.Builtin PyProof.V PySem.Spec

theorem compTurn_each (elt iter : PySem.Expr) (x : Str) (px : Pos) (scope : Scope) (pos : Pos) (it acc : Value) (env : Env) :
    compTurn (.ListComp elt [⟨.Name x px, iter, [], 0⟩] scope pos) 0 it acc env = (standAt iter.pos >>= fun _ => pyNext it >>= fun r => match r with
      | none => pure (.done .next)
      | some v => letOwnedTupleGo (.Name x px) it v >>= fun _ => assign (.Name x px) env v >>= fun _ =>
        (eval elt env >>= fun x => call (.builtin "list.append") [acc, x] >>= fun _ => pure ()) >>= fun _ =>
          again (.compLoop (.ListComp elt [⟨.Name x px, iter, [], 0⟩] scope pos) 0 it acc env)) := by rfl

/-- the word of a comprehension whose element makes objects: by turn, the list so far, the objects made -/
abbrev EachW := Nat → List Value → List (Addr × Obj) → Prop
/-- what is asked of the element -/
def EachOk (prog : Program) (w : World) (A : Around) (env : Env) (scope : Scope) (cl : List (Str × Addr)) (x : Str) (elt : PySem.Expr) (vs : List Value) (W : EachW) (h₂ : Heap) (wr : List Addr) : Prop :=
  ∀ C i v s₃ m₃ E' ys objs, vs[i]? = some v → s₃.heap.Ns C m₃ → m₃ x = some v → (∀ b o, b ∉ wr → h₂.get? b = some o → s₃.heap.get? b = some o) → (∀ p ∈ objs, s₃.heap.get? p.1 = some p.2) → W i ys objs →
    wpAny (model prog w) A (eval elt (compEnvC scope cl C env)) (fun r s₄ => Keeps s₃ s₄ ∧ ∃ more, (∀ p ∈ more, s₃.heap.get? p.1 = none ∧ s₄.heap.get? p.1 = some p.2) ∧ W (i + 1) (ys ++ [r]) (more ++ objs)) E' s₃

section
variable {prog : Program} {w : World} {A : Around} {E : Value → Shared → Prop} {env : Env}
theorem each_outer {R : Result → Shared → Prop} {s s₂ : Shared} {elt iter : PySem.Expr} {x : Str} {px : Pos} {scope : Scope} {cl : List (Str × Addr)} {pos : Pos} {I ax D C : Addr} {vs : List Value} {m : Str → Option Value} {W : EachW}
    (hh : A.handled = none) (hkind : scope.kind = .function) (hx : scope.names.lookup x = some .local)
    (hDC : D ≠ C) (hDI : D ≠ I) (hDa : D ≠ ax) (hCI : C ≠ I) (hCa : C ≠ ax) (hIa : ax ≠ I) (hC2 : s₂.heap.objs.size ≤ C) (hD2 : s₂.heap.objs.size ≤ D)
    (hold : ∀ b o, s₂.heap.get? b = some o → s.heap.get? b = some o)
    (hq : EachOk prog w A env scope cl x elt vs W s₂.heap [I]) (hw0 : W 0 [] []) (hsz : vs.length ≤ 100000)
    (hit : s.heap.IsListIter I ax 0) (hl : s.heap.IsList ax vs.toArray) (hacc : s.heap.PlainList D #[]) (hn : s.heap.Ns C m)
    (hR : ∀ h' tk m' ys objs, h'.Ns C m' → h'.PlainList D (List.toArray ys) → W vs.length ys objs → (∀ p ∈ objs, h'.get? p.1 = some p.2 ∧ s.heap.get? p.1 = none) →
      (∀ b o, b ≠ C → b ≠ I → b ≠ D → s.heap.get? b = some o → h'.get? b = some o) → R (.ok .next) { s with heap := h', toks := tk }) :
    codeAny (model prog w) A (.compLoop (.ListComp elt [⟨.Name x px, iter, [], 0⟩] scope pos) 0 (.ref I) (.ref D) (compEnvC scope cl C env)) R s := by
  have WL := Walks.list (prog := prog) (w := w) hh I ax hIa vs.toArray
  have hkx : (compEnvC scope cl C env).kindOf x = some .local := lookup_relabel_local hx
  have hk3 : (compEnvC scope cl C env).scope.kind = .function := by simp [compEnvC, relabel, hkind]
  have hp : ((compEnvC scope cl C env).scope.kind == .class || ((compEnvC scope cl C env).scope.kind == .module && (compEnvC scope cl C env).locals != (compEnvC scope cl C env).globals)) = false := by rw [hk3]; rfl
  have live : ∀ {h : Heap} {b : Addr} {o : Obj} {a : Addr}, h.get? b = some o → h.get? a = none → a ≠ b := by
    intro h b o a hb ha e; rw [e, hb] at ha; cases ha
  refine codeAny_loop rfl (fun k s' => ∃ i h' tk m' ys objs, s' = { s with heap := h', toks := tk } ∧ k = vs.length + 1 - i ∧ i ≤ vs.length ∧ (h'.IsListIter I ax i ∧ h'.IsList ax vs.toArray) ∧ h'.Ns C m' ∧
    h'.PlainList D (List.toArray ys) ∧ ys.length = i ∧ W i ys objs ∧ (∀ p ∈ objs, h'.get? p.1 = some p.2 ∧ s.heap.get? p.1 = none ∧ p.1 ≠ C ∧ p.1 ≠ I ∧ p.1 ≠ D) ∧ (∀ b o, b ≠ C → b ≠ I → b ≠ D → s.heap.get? b = some o → h'.get? b = some o)) ?_ (vs.length + 1)
    ⟨0, s.heap, s.toks, m, [], [], rfl, rfl, Nat.zero_le _, ⟨hit, hl⟩, hn, hacc, rfl, hw0, (fun _ h => (nomatch h)), fun _ _ _ _ _ e => e⟩
  rintro k s' ⟨i, H, tk, m', ys, objs, rfl, rfl, hi, hst', hn', hacc', hyl, hW, hobj, hk'⟩
  show wpAny _ A ((compTurn (.ListComp elt [⟨.Name x px, iter, [], 0⟩] scope pos) 0 (.ref I) (.ref D) (compEnvC scope cl C env)).onRaise (fun x => do noteFrame x (compEnvC scope cl C env); theTreesLotGoes x)) _ _ _
  refine wpAny_noted ?_
  rw [compTurn_each]
  refine wpAny_bind (wpAny_standAt (wpAny_bind ?_))
  by_cases hlt : i < vs.length
  · refine WL.item i _ _ _ (by simpa using hlt) hst' fun v h₁ tk₁ hPv hst₁ hk₁ => ?_
    have hv : vs[i]? = some v := by simpa using hPv
    have hk₁' : ∀ b o, b ≠ I → H.get? b = some o → h₁.get? b = some o := fun b o hb e => hk₁ b o (by rw [List.mem_singleton]; exact hb) e
    refine wpAny_bind (wpAny_of_eq rfl (wpAny_bind (wpAny_assign_Name (wpAny_storeName_local hkx (hn'.at' fun o e => hk₁' _ o hCI e) (fun h₂ hn₂ hs₂ => ?_) hp))))
    have up₂ : ∀ b o, b ≠ C → b ≠ I → H.get? b = some o → h₂.get? b = some o := fun b o h1 h2 e => hs₂.extBut b o h1 (hk₁' b o h2 e)
    refine wpAny_bind (wpAny_bind (wpAny_mono (hq C i v _ _ _ ys objs hv hn₂ (if_pos rfl) ?_ (fun p hp => up₂ _ _ (hobj p hp).2.2.1 (hobj p hp).2.2.2.1 (hobj p hp).1) hW) (fun r s₄ h₄ => ?_) fun _ _ e => e))
    · intro b o hb e
      have hlt := Heap.lt_size e
      have b1 : b ≠ C := fun e => absurd hC2 (by rw [← e]; exact Nat.not_le.mpr hlt)
      have b2 : b ≠ D := fun e => absurd hD2 (by rw [← e]; exact Nat.not_le.mpr hlt)
      have b3 : b ≠ I := fun e => hb (by rw [e]; exact .head _)
      exact up₂ b o b1 b3 (hk' b o b1 b3 b2 (hold b o e))
    obtain ⟨⟨h₄, tk₄, rfl, hk₄⟩, more, hmore, hW₄⟩ := h₄
    try dsimp only at hk₄ hmore ⊢
    have hD₂ : h₂.PlainList D (List.toArray ys) := hacc'.at fun o e => up₂ D o hDC hDI e
    have hD₄ : h₄.PlainList D (List.toArray ys) := hD₂.at fun o e => hk₄ _ _ e
    have hst₂ := WL.frame _ _ h₂ hst₁ fun b hb o e => hs₂.extBut b o (by rintro rfl; rcases List.mem_cons.mp hb with h | h; exact hCI h; exact hCa (List.mem_singleton.mp h)) e
    obtain ⟨oI, hoI, _⟩ := id hst₂.1
    obtain ⟨oC, _, _, hoC, _⟩ := id hn₂
    obtain ⟨cD, hoD⟩ := id hD₂
    refine wpAny_bind (wpAny_list_append_plain (hsz := by rw [sizeLine_eq, List.size_toArray]; omega) hD₄ fun h₅ hl₅ hs₅ => wpAny_pure (wpAny_pure ⟨rfl, vs.length + 1 - (i + 1), by omega, i + 1, h₅, _, _, ys ++ [r], more ++ objs, rfl, rfl, by omega, ?_, (hn₂.keeps hk₄).sameBut hs₅ (Ne.symm hDC), ?_, by simp [hyl], hW₄, ?_, ?_⟩))
    · have st₄ := WL.frame _ _ h₄ hst₂ fun b _ o e => hk₄ b o e
      exact WL.frame _ _ h₅ st₄ fun b hb o e => hs₅.extBut b o (by rintro rfl; rcases List.mem_cons.mp hb with h | h; exact hDI h; exact hDa (List.mem_singleton.mp h)) e
    · simpa using hl₅
    · intro p hp
      rcases List.mem_append.mp hp with hp | hp
      · have hm := hmore p hp
        have n1 := live hoD hm.1
        refine ⟨hs₅.extBut _ _ n1 hm.2, ?_, live hoC hm.1, live hoI hm.1, n1⟩
        cases q : s.heap.get? p.1 with
        | none => rfl
        | some o => exact absurd (up₂ _ _ (live hoC hm.1) (live hoI hm.1) (hk' _ _ (live hoC hm.1) (live hoI hm.1) n1 q)) (by rw [hm.1]; exact fun h => nomatch h)
      · obtain ⟨a, b, c, d, e⟩ := hobj p hp
        exact ⟨hs₅.extBut _ _ e (hk₄ _ _ (up₂ _ _ c d a)), b, c, d, e⟩
    · intro b o h1 h2 h3 e
      exact hs₅.extBut b o h3 (hk₄ b o (up₂ b o h1 h2 (hk' b o h1 h2 h3 e)))
  · obtain rfl : i = vs.length := by omega
    have hst'' : H.IsListIter I ax vs.toArray.size ∧ H.IsList ax vs.toArray := by simpa using hst'
    refine WL.done _ _ _ hst'' fun h₁ tk₁ hk₁ => wpAny_pure ?_
    have up : ∀ b o, b ≠ I → H.get? b = some o → h₁.get? b = some o := fun b o hb e => hk₁ b o (by rw [List.mem_singleton]; exact hb) e
    exact hR h₁ tk₁ m' ys objs (hn'.at' fun o e => up _ o hCI e) (hacc'.at fun o e => up D o hDI e) hW (fun p hp => ⟨up _ _ (hobj p hp).2.2.2.1 (hobj p hp).1, (hobj p hp).2.1⟩) fun b o h1 h2 h3 e => up b o h2 (hk' b o h1 h2 h3 e)

theorem each_block {s₂ : Shared} {elt iter : PySem.Expr} {x : Str} {px : Pos} {scope : Scope} {cl : List (Str × Addr)} {pos : Pos} {I ax : Addr} {vs : List Value} {RR : Value → Addr → Result → Shared → Prop} {W : EachW}
    (hh : A.handled = none) (hcell : ∀ y ∈ scope.names, y.2 ≠ .cell) (hkind : scope.kind = .function) (hx : scope.names.lookup x = some .local) (hIa : ax ≠ I)
    (hq : EachOk prog w A env scope cl x elt vs W s₂.heap [I]) (hw0 : W 0 [] []) (hsz : vs.length ≤ 100000)
    (hit : s₂.heap.IsListIter I ax 0) (hl : s₂.heap.IsList ax vs.toArray)
    (hRR : ∀ D C h' tk m' ys objs, s₂.heap.get? D = none → s₂.heap.get? C = none → D ≠ C → h'.Ns C m' → h'.PlainList D (List.toArray ys) → W vs.length ys objs → (∀ p ∈ objs, h'.get? p.1 = some p.2 ∧ s₂.heap.get? p.1 = none ∧ p.1 ≠ D ∧ p.1 ≠ C) →
      (∀ b o, b ≠ I → s₂.heap.get? b = some o → h'.get? b = some o) → RR (.ref D) C (.ok .next) { s₂ with heap := h', toks := tk }) :
    wpAny (model prog w) A (newList []) (fun acc s₃ => wpAny (model prog w) A (newFunctionEnv scope env.globals cl [] env.qual none .none (some env)) (fun cenv s₄ =>
      codeAny (model prog w) A (.compStart (.ListComp elt [⟨.Name x px, iter, [], 0⟩] scope pos) 0 (.ref I) acc { cenv with scope := relabel scope env }) (RR acc cenv.locals) s₄) E s₃) E s₂ := by
  refine wpAny_newObj_type (wpAny_newFunctionEnv hcell (by intro y hy; simp at hy) (fun h₁ hns₁ hsb₁ => ?_) hkind)
  dsimp only at hns₁ hsb₁ ⊢
  generalize hH2 : s₂.heap.push { cls := .type "list", dict := none, data := .seq ([] : List Value).toArray } = H2 at hns₁ hsb₁ ⊢
  have hC : H2.objs.size = s₂.heap.objs.size + 1 := by rw [← hH2, Heap.size_push]
  have hDC : s₂.heap.objs.size ≠ H2.objs.size := by rw [hC]; exact Nat.ne_of_lt (Nat.lt_succ_self _)
  have hCle : s₂.heap.objs.size ≤ H2.objs.size := by rw [hC]; exact Nat.le_succ _
  have below : ∀ b, b < s₂.heap.objs.size → b ≠ H2.objs.size ∧ b ≠ s₂.heap.objs.size := fun b hb => ⟨by rw [hC]; exact Nat.ne_of_lt (Nat.lt_succ_of_lt hb), Nat.ne_of_lt hb⟩
  have old : ∀ b o, s₂.heap.get? b = some o → h₁.get? b = some o := fun b o e => hsb₁.extBut b o (below b (Heap.lt_size e)).1 (Heap.get?_push_of_some _ (hH2 ▸ Heap.get?_push_of_some _ e))
  have hacc : h₁.PlainList s₂.heap.objs.size #[] := ⟨_, hsb₁.extBut _ _ hDC (Heap.get?_push_of_some _ (hH2 ▸ Heap.get?_push_size _ rfl))⟩
  have fresh : ∀ a, s₂.heap.objs.size ≤ a → s₂.heap.get? a = none := fun a ha => by
    cases e : s₂.heap.get? a with
    | none => rfl
    | some o' => exact absurd (Heap.lt_size e) (Nat.not_lt.mpr ha)
  have ltI : @LT.lt Nat _ I s₂.heap.objs.size := by obtain ⟨o, ho, _⟩ := hit; exact Heap.lt_size ho
  have lta : @LT.lt Nat _ ax s₂.heap.objs.size := by obtain ⟨o, ho, _⟩ := hl; exact Heap.lt_size ho
  have hDh : ∃ o, h₁.get? s₂.heap.objs.size = some o := by obtain ⟨n, e⟩ := hacc; exact ⟨_, e⟩
  have hCh : ∃ o, h₁.get? H2.objs.size = some o := by obtain ⟨o, _, _, e, _⟩ := hns₁; exact ⟨_, e⟩
  have loop : ∀ s₃ : Shared, s₃ = { s₂ with heap := h₁, toks := s₂.toks + ([] : List (Str × Value)).length } →
      codeAny (model prog w) A (.compLoop (.ListComp elt [⟨.Name x px, iter, [], 0⟩] scope pos) 0 (.ref I) (.ref s₂.heap.objs.size) (compEnvC scope cl H2.objs.size env))
        (RR (.ref s₂.heap.objs.size) H2.objs.size) s₃ := by
    rintro s₃ rfl
    refine each_outer hh hkind hx hDC (Ne.symm (below I ltI).2) (Ne.symm (below ax lta).2) (Ne.symm (below I ltI).1) (Ne.symm (below ax lta).1) hIa hCle (Nat.le_refl _) old hq hw0 hsz (hit.at fun o e => old _ o e) (hl.at fun o e => old _ o e) hacc hns₁ ?_
    intro h' tk m' ys objs hns hpl hW hobj hk
    refine hRR _ _ h' tk m' ys objs (fresh _ (Nat.le_refl _)) (fresh _ hCle) hDC hns hpl hW (fun p hp => ⟨(hobj p hp).1, ?_, ?_, ?_⟩) fun b o hb e => hk b o (below b (Heap.lt_size e)).1 hb (below b (Heap.lt_size e)).2 (old b o e)
    · cases q : s₂.heap.get? p.1 with
      | none => rfl
      | some o => have := old _ _ q; rw [show h₁.get? p.1 = none from (hobj p hp).2] at this; cases this
    · intro e
      obtain ⟨o, ho⟩ := hDh
      have := (hobj p hp).2
      rw [e, show h₁.get? s₂.heap.objs.size = some o from ho] at this; cases this
    · intro e
      obtain ⟨o, ho⟩ := hCh
      have := (hobj p hp).2
      rw [e, show h₁.get? H2.objs.size = some o from ho] at this; cases this
  exact codeAny_compStart_list (loop _ rfl) (wpAny_pyIter_listiter (hit.at fun o e => old _ o e) (loop _ rfl))

/-- `z = [elt for x in a list]`, the element making objects -/
theorem asg_each {s : Shared} {h₀ : Heap} {elt iter : PySem.Expr} {x z : Str} {px pw : Pos} {scope : Scope} {cl : List (Str × Addr)} {pos spos : Pos} {Q : Flow → Shared → Prop} (W : EachW)
    (hh : A.handled = none)
    (hsw : swapsWith (.ListComp elt [⟨.Name x px, iter, [], 0⟩] scope pos) (some (.Name z pw)) spos.line env = pure true)
    (hclos : closureFor scope env = pure cl) (hcell : ∀ z ∈ scope.names, z.2 ≠ .cell) (hkind : scope.kind = .function)
    (hnames : ∀ z ∈ scope.names, z.2 = .local → scope.names.lookup z.1 = some .local) (hx : scope.names.lookup x = some .local)
    (hz : env.kindOf z = some .local) (hp : (env.scope.kind == .class || (env.scope.kind == .module && env.locals != env.globals)) = false)
    (h : wpAny (model prog w) A (eval iter env) (fun xv s₁ => ∃ (ax : Addr) (vs : List Value) (m : Str → Option Value) (news : List (Addr × Obj)), xv = .ref ax ∧ s₁.heap.IsList ax (List.toArray vs) ∧ vs.length ≤ 100000 ∧ Fr h₀ env.locals s₁.heap m ∧ News h₀ env.locals s₁.heap news ∧ W 0 [] [] ∧
      EachOk prog w A env scope cl x elt vs W s₁.heap [] ∧
      (∀ D h' tk ys objs c, Fr h₀ env.locals h' (fun u => if u = z then some (.ref D) else m u) → News h₀ env.locals h' ((D, PySem.W.listOf (List.toArray ys) c) :: (objs ++ news)) → (∀ p ∈ objs ++ news, p.1 ≠ D) → (∀ p ∈ objs, s₁.heap.get? p.1 = none) → s₁.heap.get? D = none →
        W vs.length ys objs → Q .next { s₁ with heap := h', toks := tk })) E s)
    (hs : ∀ x, foldedSetIterable iter env x = pure x := by intro _; rfl) :
    wpAny (model prog w) A (exec (.Assign [.Name z pw] (.ListComp elt [⟨.Name x px, iter, [], 0⟩] scope pos) spos) env) Q E s := by
  rw [exec_Assign_Name_used _ _ _ _ hsw]
  refine wpAny_bind (wpAny_standAt (wpAny_bind ?_))
  show wpAny _ A (do let _ ← comprehension (.ListComp elt [⟨.Name x px, iter, [], 0⟩] scope pos) scope env _ (newList []) false (eval iter env) (some (assign (.Name z pw) env))) _ _ s
  refine wpAny_bind (wpAny_mono (wpAny_comprehension_free (use := some (assign (.Name z pw) env)) (Q := fun _ s' => Q .next s') rfl hs hclos hkind hnames
    (wpAny_mono h (fun xv s₁ h₁ => ?_) fun _ _ e => e)) (fun _ s' hq => wpAny_pure (wpAny_pure hq)) fun _ _ e => e)
  obtain ⟨ax, vs, m, news, rfl, hl, hsz, F, N, hw0, hq, hQ⟩ := h₁
  have lta : @LT.lt Nat _ ax s₁.heap.objs.size := by obtain ⟨o, ho, _⟩ := hl; exact Heap.lt_size ho
  refine wpAny_pyIter_list hl ?_
  have hLI : env.locals ≠ s₁.heap.objs.size := Nat.ne_of_lt F.ns.lt
  refine each_block (RR := fun acc C => compPost (model prog w) A E (some (assign (.Name z pw) env)) (fun _ s' => Q .next s') acc C) hh hcell hkind hx (Nat.ne_of_lt lta) ?_ hw0 hsz ⟨_, Heap.get?_push_size _ rfl, rfl, rfl⟩ (hl.at fun o e => Heap.get?_push_of_some _ e) ?_
  · intro C i v s₃ m₃ E' ys objs hv hn₃ hx₃ hk₃ ho₃ hW₃
    exact hq C i v s₃ m₃ E' ys objs hv hn₃ hx₃ (fun b o _ e => hk₃ b o (fun hm => absurd (Heap.lt_size e) (by rw [List.mem_singleton.mp hm]; exact Nat.lt_irrefl _)) (Heap.get?_push_of_some _ e)) ho₃ hW₃
  · intro D C h' tk m' ys objs hD hC hDC hnC hpl hW hobj hk
    have hk' : ∀ b o, s₁.heap.get? b = some o → h'.get? b = some o := fun b o e => hk b o (fun hb => absurd (Heap.lt_size e) (by rw [hb]; exact Nat.lt_irrefl _)) (Heap.get?_push_of_some _ e)
    have none_of : ∀ b, (s₁.heap.push { cls := .type "list_iterator", data := .fields #[.ref ax, .int 0 0] }).get? b = none → s₁.heap.get? b = none := fun b hb => by
      cases q : s₁.heap.get? b with
      | none => rfl
      | some o => have := Heap.get?_push_of_some { cls := .type "list_iterator", data := .fields #[.ref ax, .int 0 0] } q; rw [hb] at this; cases this
    have hold : ∀ b o, s₁.heap.get? b = some o → b ≠ D := fun b o e hb => by rw [hb, none_of D hD] at e; cases e
    have holdC : ∀ b o, s₁.heap.get? b = some o → b ≠ C := fun b o e hb => by rw [hb, none_of C hC] at e; cases e
    have hLC : env.locals ≠ C := by obtain ⟨o, _, _, ho, _⟩ := F.ns; exact holdC _ _ ho
    have hLD : env.locals ≠ D := by obtain ⟨o, _, _, ho, _⟩ := F.ns; exact hold _ _ ho
    have hLo : ∀ p ∈ objs, p.1 ≠ env.locals := fun p hp e => by
      obtain ⟨o, _, _, ho, _⟩ := F.ns
      have := none_of _ (hobj p hp).2.1
      rw [e, show s₁.heap.get? env.locals = some o from ho] at this; cases this
    show wpAny _ A (assign (.Name z pw) env (.ref D)) _ _ _
    refine wpAny_assign_Name (wpAny_storeName_local hz (F.ns.at' fun o e => hk' _ o e) (fun h₂ hn₂ hs₂ => ?_) hp)
    refine ⟨m', hnC.sameBut hs₂ (Ne.symm hLC), fun h₃ hs₃ => ?_⟩
    have hk3 : ∀ b o, b ≠ env.locals → s₁.heap.get? b = some o → h₃.get? b = some o := fun b o hb e => hs₃.extBut b o (holdC b o e) (hs₂.extBut b o hb (hk' b o e))
    have hpl₃ := (hpl.extBut hs₂.extBut (Ne.symm hLD)).extBut hs₃.extBut hDC
    obtain ⟨c, hpl₃⟩ := hpl₃
    have F' : Fr h₀ env.locals h₃ (fun u => if u = z then some (.ref D) else m u) := ⟨hn₂.sameBut hs₃ hLC, fun b o e => hk3 b o (Nat.ne_of_lt (Nat.lt_of_lt_of_le (Heap.lt_size e) F.above)) (F.keep b o e), F.above⟩
    have base_none : ∀ b, s₁.heap.get? b = none → h₀.get? b = none := fun b hb => by
      cases q : h₀.get? b with
      | none => rfl
      | some o => have := F.keep _ _ q; rw [hb] at this; cases this
    refine hQ D h₃ _ ys objs c F' ?_ (fun p hp e => ?_) (fun p hp => none_of _ (hobj p hp).2.1) (none_of D hD) hW
    · intro p hp
      rcases List.mem_cons.mp hp with rfl | hp
      · exact ⟨hpl₃, Ne.symm hLD, base_none _ (none_of D hD)⟩
      · rcases List.mem_append.mp hp with hp | hp
        · exact ⟨hs₃.extBut _ _ (hobj p hp).2.2.2 (hs₂.extBut _ _ (hLo p hp) (hobj p hp).1), hLo p hp, base_none _ (none_of _ (hobj p hp).2.1)⟩
        · exact ⟨hk3 _ _ (N p hp).2.1 (N p hp).1, (N p hp).2⟩
    · rcases List.mem_append.mp hp with hp | hp
      · exact (hobj p hp).2.2.1 e
      · exact hold _ _ (N p hp).1 e

/-- `[elt for x in a list]` as a value, the element making objects -/
theorem eval_each {s : Shared} {elt iter : PySem.Expr} {x : Str} {px : Pos} {scope : Scope} {cl : List (Str × Addr)} {pos : Pos} {Q : Value → Shared → Prop} (W : EachW)
    (hh : A.handled = none) (hclos : closureFor scope env = pure cl) (hcell : ∀ z ∈ scope.names, z.2 ≠ .cell) (hkind : scope.kind = .function)
    (hnames : ∀ z ∈ scope.names, z.2 = .local → scope.names.lookup z.1 = some .local) (hx : scope.names.lookup x = some .local)
    (h : wpAny (model prog w) A (eval iter env) (fun xv s₁ => ∃ (ax : Addr) (vs : List Value), xv = .ref ax ∧ s₁.heap.IsList ax (List.toArray vs) ∧ vs.length ≤ 100000 ∧ W 0 [] [] ∧
      EachOk prog w A env scope cl x elt vs W s₁.heap [] ∧
      (∀ D h' tk ys objs c, s₁.heap.get? D = none → h'.get? D = some (PySem.W.listOf (List.toArray ys) c) → (∀ p ∈ objs, h'.get? p.1 = some p.2 ∧ s₁.heap.get? p.1 = none ∧ p.1 ≠ D) → (∀ b o, s₁.heap.get? b = some o → h'.get? b = some o) →
        W vs.length ys objs → Q (.ref D) { s₁ with heap := h', toks := tk })) E s)
    (hs : ∀ x, foldedSetIterable iter env x = pure x := by intro _; rfl) :
    wpAny (model prog w) A (eval (.ListComp elt [⟨.Name x px, iter, [], 0⟩] scope pos) env) Q E s := by
  rw [eval_ListComp]
  refine wpAny_comprehension_free (use := none) rfl hs hclos hkind hnames (wpAny_mono h (fun xv s₁ h₁ => ?_) fun _ _ e => e)
  obtain ⟨ax, vs, rfl, hl, hsz, hw0, hq, hQ⟩ := h₁
  have lta : @LT.lt Nat _ ax s₁.heap.objs.size := by obtain ⟨o, ho, _⟩ := hl; exact Heap.lt_size ho
  refine wpAny_pyIter_list hl ?_
  refine each_block (RR := fun acc C => compPost (model prog w) A E none Q acc C) hh hcell hkind hx (Nat.ne_of_lt lta) ?_ hw0 hsz ⟨_, Heap.get?_push_size _ rfl, rfl, rfl⟩ (hl.at fun o e => Heap.get?_push_of_some _ e) ?_
  · intro C i v s₃ m₃ E' ys objs hv hn₃ hx₃ hk₃ ho₃ hW₃
    exact hq C i v s₃ m₃ E' ys objs hv hn₃ hx₃ (fun b o _ e => hk₃ b o (fun hm => absurd (Heap.lt_size e) (by rw [List.mem_singleton.mp hm]; exact Nat.lt_irrefl _)) (Heap.get?_push_of_some _ e)) ho₃ hW₃
  · intro D C h' tk m' ys objs hD hC hDC hnC hpl hW hobj hk
    have hk' : ∀ b o, s₁.heap.get? b = some o → h'.get? b = some o := fun b o e => hk b o (fun hb => absurd (Heap.lt_size e) (by rw [hb]; exact Nat.lt_irrefl _)) (Heap.get?_push_of_some _ e)
    have none_of : ∀ b, (s₁.heap.push { cls := .type "list_iterator", data := .fields #[.ref ax, .int 0 0] }).get? b = none → s₁.heap.get? b = none := fun b hb => by
      cases q : s₁.heap.get? b with
      | none => rfl
      | some o => have := Heap.get?_push_of_some { cls := .type "list_iterator", data := .fields #[.ref ax, .int 0 0] } q; rw [hb] at this; cases this
    have holdC : ∀ b o, s₁.heap.get? b = some o → b ≠ C := fun b o e hb => by rw [hb, none_of C hC] at e; cases e
    refine ⟨m', hnC, fun h₃ hs₃ => ?_⟩
    have hpl₃ := hpl.extBut hs₃.extBut hDC
    obtain ⟨c, hpl₃⟩ := hpl₃
    exact hQ D h₃ _ ys objs c (none_of D hD) hpl₃ (fun p hp => ⟨hs₃.extBut _ _ (hobj p hp).2.2.2 (hobj p hp).1, none_of _ (hobj p hp).2.1, (hobj p hp).2.2.1⟩) (fun b o e => hs₃.extBut b o (holdC b o e) (hk' b o e)) hW
end
end Mine
namespace Mine
open PySem.Builtin

/-- an entry with its data -/
structure En where
  (a dx ua rl : Addr)
  (vs rs : List Value)
  (ss : List Str)
  (de ra : Value)
  (t1 t2 t3 t4 : Tok)
  (n m : Nat)
def En.objs (P : Params) (e : En) : List (Addr × Obj) := [(e.rl, W.listOf e.rs.toArray e.m), (e.ua, W.listOf e.vs.toArray e.n), (e.a, instObj 59 e.dx), (e.dx, entD P e.t1 e.t2 e.t3 e.t4 e.ua e.rl e.de e.ra)]
def flatE (P : Params) (es : List En) : List (Addr × Obj) := es.flatMap (En.objs P)
def okV (v : Value) : Prop := v = .none ∨ ∃ n t, v = .int n t
structure EnOk (i : Nat) (e : En) : Prop where
  ss : StrsAre e.vs e.ss
  rs : ∃ ns, IntsAre e.rs ns
  vl : e.vs.length ≤ i
  rl : e.rs.length ≤ i
  de : okV e.de
  ra : okV e.ra
theorem EnOk.le {i j : Nat} {e : En} (h : EnOk i e) (k : i ≤ j) : EnOk j e := ⟨h.ss, h.rs, Nat.le_trans h.vl k, Nat.le_trans h.rl k, h.de, h.ra⟩
structure Apart (P : Params) (lO : Addr) (e : En) (pre : List En) : Prop where
  nd : @List.Nodup Nat [lO, e.rl, e.ua, e.a, e.dx]
  off : ∀ p ∈ flatE P pre, p.1 ∉ [lO, e.rl, e.ua, e.a, e.dx]
abbrev refsOf (es : List En) : List Value := es.map fun e => Value.ref e.a
def OnesW (P : Params) (lO : Addr) (i : Nat) (news : List (Addr × Obj)) : Prop :=
  ∃ (pre : List En) (e : En) (c : Nat), news = (lO, W.listOf (List.toArray (refsOf (pre ++ [e]))) c) :: (e.objs P ++ flatE P pre) ∧ pre.length ≤ 4 ∧ Apart P lO e pre ∧ ∀ e' ∈ pre ++ [e], EnOk i e'

section
variable {prog : Program} {w : World} {A : Around} {E : Value → Shared → Prop} {s : Shared} {h₀ : Heap} {L : Addr} {m : Str → Option Value}
set_option maxHeartbeats 4000000 in
theorem set_delay {a dx ua rl : Addr} {de ra v : Value} {t1 t2 t3 t4 : Tok} {rest : List (Addr × Obj)} {Q : Unit → Shared → Prop} (F : Fr h₀ L s.heap m) (X : (hd5.heap_39 w.params).In h₀) (N : News h₀ L s.heap ((dx, entD w.params t1 t2 t3 t4 ua rl de ra) :: (a, instObj 59 dx) :: rest)) (hr : ∀ p ∈ (a, instObj 59 dx) :: rest, p.1 ≠ dx)
    (h : ∀ h' u, Fr h₀ L h' m → News h₀ L h' ((dx, entD w.params t1 t2 u t4 ua rl v ra) :: (a, instObj 59 dx) :: rest) → Q () { s with heap := h', toks := s.toks + 2 }) : wpAny (model prog w) A (setAttr (.ref a) (Str.ofString "delay") v) Q E s := by
  refine fillK ?_
  k_fill
  intro _ _
  have I : W.InstAt s.heap a (instObj 59 dx) 59 (some (entD w.params t1 t2 t3 t4 ua rl de ra)) := ⟨(N _ (.tail _ (.head _))).1, rfl, rfl, (N _ (.head _)).1⟩
  refine' set_dict F X N I ?k5 ?k6 ?k7 ?k8 ?k9 ?k10 ?k11 (.head hr) ?k13 ?_
  case k5 => exact rfl
  case k6 => k_is
  case k7 => k_is
  case k8 => k_is
  case k9 => k_is
  case k10 => k_get
  case k11 => k_put
  case k13 => exact Nat.le_of_ble_eq_true rfl
  exact fun h' F' N' => h h' _ F' N'
set_option maxHeartbeats 4000000 in
theorem set_rate {a dx ua rl : Addr} {de ra v : Value} {t1 t2 t3 t4 : Tok} {rest : List (Addr × Obj)} {Q : Unit → Shared → Prop} (F : Fr h₀ L s.heap m) (X : (hd5.heap_39 w.params).In h₀) (N : News h₀ L s.heap ((dx, entD w.params t1 t2 t3 t4 ua rl de ra) :: (a, instObj 59 dx) :: rest)) (hr : ∀ p ∈ (a, instObj 59 dx) :: rest, p.1 ≠ dx)
    (h : ∀ h' u, Fr h₀ L h' m → News h₀ L h' ((dx, entD w.params t1 t2 t3 u ua rl de v) :: (a, instObj 59 dx) :: rest) → Q () { s with heap := h', toks := s.toks + 2 }) : wpAny (model prog w) A (setAttr (.ref a) (Str.ofString "req_rate") v) Q E s := by
  refine fillK ?_
  k_fill
  intro _ _
  have I : W.InstAt s.heap a (instObj 59 dx) 59 (some (entD w.params t1 t2 t3 t4 ua rl de ra)) := ⟨(N _ (.tail _ (.head _))).1, rfl, rfl, (N _ (.head _)).1⟩
  refine' set_dict F X N I ?k5 ?k6 ?k7 ?k8 ?k9 ?k10 ?k11 (.head hr) ?k13 ?_
  case k5 => exact rfl
  case k6 => k_is
  case k7 => k_is
  case k8 => k_is
  case k9 => k_is
  case k10 => k_get
  case k11 => k_put
  case k13 => exact Nat.le_of_ble_eq_true rfl
  exact fun h' F' N' => h h' _ F' N'
theorem ones_last {pre : List En} {e : En} : (refsOf (pre ++ [e]))[((-1 : Int) + ((refsOf (pre ++ [e])).length : Int)).toNat]? = some (.ref e.a) := by
  have h : ((-1 : Int) + ((refsOf (pre ++ [e])).length : Int)).toNat = pre.length := by simp; omega
  rw [h]
  simp [refsOf]
/-- a turn's end of the law's first loop -/
theorem ones_step {P : Params} {lO I : Addr} {i : Nat} {own : List (Addr × Obj)} {h' : Heap} {m₀ m₂ : Str → Option Value} {cs : List Str} {s₁ : Shared} {tk : Nat} {pre : List En} {e : En} {c : Nat} {news : List (Addr × Obj)} (F : Fr h₀ L h' m₂) (N : News h₀ L h' news)
    (h1 : ∀ p ∈ own, p ∈ news) (h2 : (lO, W.listOf (List.toArray (refsOf (pre ++ [e]))) c) ∈ news) (h3 : ∀ p ∈ e.objs P, p ∈ news) (h4 : ∀ p ∈ flatE P pre, p ∈ news) (hpl : pre.length ≤ 4) (hap : Apart P lO e pre) (hok : ∀ e' ∈ pre ++ [e], EnOk (i + 1) e')
    (hI : lO ≠ I ∧ e.rl ≠ I ∧ e.ua ≠ I ∧ e.a ≠ I ∧ e.dx ≠ I) (hIf : ∀ p ∈ flatE P pre, p.1 ≠ I) (hm : ∀ y, y ∉ cs → m₂ y = m₀ y) :
    LoopStepU h₀ L [I] own (fun m news => (∀ y, y ∉ cs → m y = m₀ y) ∧ OnesW P lO (i + 1) news) s₁ .next { s₁ with heap := h', toks := tk } := by
  refine LoopStepU.intro F (news₂ := (lO, W.listOf (List.toArray (refsOf (pre ++ [e]))) c) :: (e.objs P ++ flatE P pre)) (fun p hp => N p ?_) (fun p hp => ?_) ⟨hm, pre, e, c, rfl, hpl, hap, hok⟩
  · rcases List.mem_append.mp hp with hp | hp
    · exact h1 p hp
    · rcases List.mem_cons.mp hp with rfl | hp
      · exact h2
      · rcases List.mem_append.mp hp with hp | hp
        · exact h3 p hp
        · exact h4 p hp
  · rw [List.mem_singleton]
    rcases List.mem_cons.mp hp with rfl | hp
    · exact hI.1
    · rcases List.mem_append.mp hp with hp | hp
      · simp only [En.objs, List.mem_cons, List.not_mem_nil, or_false] at hp
        rcases hp with rfl | rfl | rfl | rfl
        · exact hI.2.1
        · exact hI.2.2.1
        · exact hI.2.2.2.1
        · exact hI.2.2.2.2
      · exact hIf p hp
end
end Mine
namespace Mine
open PySem.Builtin


section
variable {prog : Program} {w : World} {A : Around} {E : Value → Shared → Prop} {s : Shared} {h₀ : Heap} {L : Addr} {m : Str → Option Value}
set_option maxHeartbeats 4000000 in
theorem get_rl {expr : Bool} {a dx ua rl : Addr} {de ra : Value} {t1 t2 t3 t4 : Tok} {Q : Value → Shared → Prop} (F : Fr h₀ L s.heap m) (X : (hd5.heap_39 w.params).In h₀) (hA : s.heap.get? a = some (instObj 59 dx)) (hD : s.heap.get? dx = some (entD w.params t1 t2 t3 t4 ua rl de ra))
    (h : Q (.ref rl) { s with toks := s.toks + 1 }) : wpAny (model prog w) A (getAttr (.ref a) (Str.ofString "rulelines") expr) Q E s := by
  refine fillK ?_
  k_fill
  intro _ _
  have I : W.InstAt s.heap a (instObj 59 dx) 59 (some (entD w.params t1 t2 t3 t4 ua rl de ra)) := ⟨hA, rfl, rfl, hD⟩
  refine' get_own F X I ?k4 ?k5 ?k6 ?k7 ?k8 ?k9 h
  case k4 => k_is
  case k5 => k_is
  case k6 => k_is
  case k7 => k_is
  case k8 => k_get
  case k9 => rfl
set_option maxHeartbeats 4000000 in
theorem get_ua {expr : Bool} {a dx ua rl : Addr} {de ra : Value} {t1 t2 t3 t4 : Tok} {Q : Value → Shared → Prop} (F : Fr h₀ L s.heap m) (X : (hd5.heap_39 w.params).In h₀) (hA : s.heap.get? a = some (instObj 59 dx)) (hD : s.heap.get? dx = some (entD w.params t1 t2 t3 t4 ua rl de ra))
    (h : Q (.ref ua) { s with toks := s.toks + 1 }) : wpAny (model prog w) A (getAttr (.ref a) (Str.ofString "useragents") expr) Q E s := by
  refine fillK ?_
  k_fill
  intro _ _
  have I : W.InstAt s.heap a (instObj 59 dx) 59 (some (entD w.params t1 t2 t3 t4 ua rl de ra)) := ⟨hA, rfl, rfl, hD⟩
  refine' get_own F X I ?k4 ?k5 ?k6 ?k7 ?k8 ?k9 h
  case k4 => k_is
  case k5 => k_is
  case k6 => k_is
  case k7 => k_is
  case k8 => k_get
  case k9 => rfl
end
theorem mem_rot {α : Type} {a b x : α} {r : List α} (h : x ∈ b :: a :: r) : x ∈ a :: b :: r := by
  simp only [List.mem_cons] at h ⊢
  rcases h with h | h | h
  · exact .inr (.inl h)
  · exact .inl h
  · exact .inr (.inr h)
theorem mem_rot3 {α : Type} {a b c x : α} {r : List α} (h : x ∈ c :: a :: b :: r) : x ∈ a :: b :: c :: r := by
  simp only [List.mem_cons] at h ⊢
  rcases h with h | h | h | h
  · exact .inr (.inr (.inl h))
  · exact .inl h
  · exact .inr (.inl h)
  · exact .inr (.inr (.inr h))
theorem strs_len {vs : List Value} {ss : List Str} (h : StrsAre vs ss) (x : Str) (t : Tok) : StrsAre (vs ++ [Value.str x t]) (ss ++ [x]) := strs_append h (.cons x t .nil)
theorem ints_app {vs : List Value} {ns : List Int} (h : IntsAre vs ns) (x : Int) (t : Tok) : IntsAre (vs ++ [.int x t]) (ns ++ [x]) := by
  induction h with
  | nil => exact .cons x t .nil
  | cons y u _ ih => exact .cons y u ih

section
variable {P : Params} {lO I L : Addr} {h₀ : Heap} {i : Nat} {own : List (Addr × Obj)} {h' : Heap} {m₀ m₂ : Str → Option Value} {cs : List Str} {s₁ : Shared} {tk : Nat} {pre : List En} {e : En} {c n' : Nat} {own2 : List (Addr × Obj)}
theorem refs_same {e e' : En} (h : e'.a = e.a) : refsOf (pre ++ [e']) = refsOf (pre ++ [e]) := by simp [refsOf, h]
theorem turn_rs {k : Int} {t : Tok} (F : Fr h₀ L h' m₂) (N : News h₀ L h' ((e.rl, W.listOf (e.rs ++ [Value.int k t]).toArray n') :: (lO, W.listOf (List.toArray (refsOf (pre ++ [e]))) c) :: (e.ua, W.listOf e.vs.toArray e.n) :: (e.a, instObj 59 e.dx) :: (e.dx, entD P e.t1 e.t2 e.t3 e.t4 e.ua e.rl e.de e.ra) :: (flatE P pre ++ own2))) (hos : ∀ p ∈ own, p ∈ own2)
    (hpl : pre.length ≤ 4) (hap : Apart P lO e pre) (hok : ∀ e' ∈ pre ++ [e], EnOk i e')
    (hI : lO ≠ I ∧ e.rl ≠ I ∧ e.ua ≠ I ∧ e.a ≠ I ∧ e.dx ≠ I) (hIf : ∀ p ∈ flatE P pre, p.1 ≠ I) (hm : ∀ y, y ∉ cs → m₂ y = m₀ y) : LoopStepU h₀ L [I] own (fun m news => (∀ y, y ∉ cs → m y = m₀ y) ∧ OnesW P lO (i + 1) news) s₁ .next { s₁ with heap := h', toks := tk } := by
  have ok := hok e (by simp)
  refine ones_step (e := { e with rs := e.rs ++ [Value.int k t], m := n' }) (c := c) F N (fun p hp => .tail _ (.tail _ (.tail _ (.tail _ (.tail _ (List.mem_append_right _ (hos p hp))))))) ?_ (fun p hp => ?_) (fun p hp => .tail _ (.tail _ (.tail _ (.tail _ (.tail _ (List.mem_append_left _ hp)))))) hpl ⟨hap.nd, hap.off⟩ (fun e' he => ?_) hI hIf hm
  · simp only [refsOf, List.map_append, List.map_cons, List.map_nil]; exact .tail _ (.head _)
  · simp only [En.objs, List.mem_cons, List.not_mem_nil, or_false] at hp
    rcases hp with rfl | rfl | rfl | rfl
    · exact .head _
    · exact .tail _ (.tail _ (.head _))
    · exact .tail _ (.tail _ (.tail _ (.head _)))
    · exact .tail _ (.tail _ (.tail _ (.tail _ (.head _))))
  · rcases List.mem_append.mp he with he | he
    · exact (hok e' (List.mem_append_left _ he)).le (Nat.le_succ _)
    · rw [List.mem_singleton.mp he]
      obtain ⟨ns', hns'⟩ := ok.rs
      exact ⟨ok.ss, ⟨_, ints_app hns' _ _⟩, Nat.le_succ_of_le ok.vl, by have := ok.rl; simp; omega, ok.de, ok.ra⟩
theorem turn_vs {x : Str} {t : Tok} (F : Fr h₀ L h' m₂) (N : News h₀ L h' ((e.ua, W.listOf (e.vs ++ [Value.str x t]).toArray n') :: (lO, W.listOf (List.toArray (refsOf (pre ++ [e]))) c) :: (e.rl, W.listOf e.rs.toArray e.m) :: (e.a, instObj 59 e.dx) :: (e.dx, entD P e.t1 e.t2 e.t3 e.t4 e.ua e.rl e.de e.ra) :: (flatE P pre ++ own2))) (hos : ∀ p ∈ own, p ∈ own2)
    (hpl : pre.length ≤ 4) (hap : Apart P lO e pre) (hok : ∀ e' ∈ pre ++ [e], EnOk i e')
    (hI : lO ≠ I ∧ e.rl ≠ I ∧ e.ua ≠ I ∧ e.a ≠ I ∧ e.dx ≠ I) (hIf : ∀ p ∈ flatE P pre, p.1 ≠ I) (hm : ∀ y, y ∉ cs → m₂ y = m₀ y) : LoopStepU h₀ L [I] own (fun m news => (∀ y, y ∉ cs → m y = m₀ y) ∧ OnesW P lO (i + 1) news) s₁ .next { s₁ with heap := h', toks := tk } := by
  have ok := hok e (by simp)
  refine ones_step (e := { e with vs := e.vs ++ [Value.str x t], ss := e.ss ++ [x], n := n' }) (c := c) F N (fun p hp => .tail _ (.tail _ (.tail _ (.tail _ (.tail _ (List.mem_append_right _ (hos p hp))))))) ?_ (fun p hp => ?_) (fun p hp => .tail _ (.tail _ (.tail _ (.tail _ (.tail _ (List.mem_append_left _ hp)))))) hpl ⟨hap.nd, hap.off⟩ (fun e' he => ?_) hI hIf hm
  · simp only [refsOf, List.map_append, List.map_cons, List.map_nil]; exact .tail _ (.head _)
  · simp only [En.objs, List.mem_cons, List.not_mem_nil, or_false] at hp
    rcases hp with rfl | rfl | rfl | rfl
    · exact .tail _ (.tail _ (.head _))
    · exact .head _
    · exact .tail _ (.tail _ (.tail _ (.head _)))
    · exact .tail _ (.tail _ (.tail _ (.tail _ (.head _))))
  · rcases List.mem_append.mp he with he | he
    · exact (hok e' (List.mem_append_left _ he)).le (Nat.le_succ _)
    · rw [List.mem_singleton.mp he]
      exact ⟨strs_len ok.ss _ _, ok.rs, by have := ok.vl; simp; omega, Nat.le_succ_of_le ok.rl, ok.de, ok.ra⟩
theorem turn_dr {de ra : Value} {t3 t4 : Tok} (hde : okV de) (hra : okV ra) (F : Fr h₀ L h' m₂) (N : News h₀ L h' ((e.dx, entD P e.t1 e.t2 t3 t4 e.ua e.rl de ra) :: (e.a, instObj 59 e.dx) :: (lO, W.listOf (List.toArray (refsOf (pre ++ [e]))) c) :: (e.rl, W.listOf e.rs.toArray e.m) :: (e.ua, W.listOf e.vs.toArray e.n) :: (flatE P pre ++ own2))) (hos : ∀ p ∈ own, p ∈ own2)
    (hpl : pre.length ≤ 4) (hap : Apart P lO e pre) (hok : ∀ e' ∈ pre ++ [e], EnOk i e')
    (hI : lO ≠ I ∧ e.rl ≠ I ∧ e.ua ≠ I ∧ e.a ≠ I ∧ e.dx ≠ I) (hIf : ∀ p ∈ flatE P pre, p.1 ≠ I) (hm : ∀ y, y ∉ cs → m₂ y = m₀ y) : LoopStepU h₀ L [I] own (fun m news => (∀ y, y ∉ cs → m y = m₀ y) ∧ OnesW P lO (i + 1) news) s₁ .next { s₁ with heap := h', toks := tk } := by
  have ok := hok e (by simp)
  refine ones_step (e := { e with de := de, ra := ra, t3 := t3, t4 := t4 }) (c := c) F N (fun p hp => .tail _ (.tail _ (.tail _ (.tail _ (.tail _ (List.mem_append_right _ (hos p hp))))))) ?_ (fun p hp => ?_) (fun p hp => .tail _ (.tail _ (.tail _ (.tail _ (.tail _ (List.mem_append_left _ hp)))))) hpl ⟨hap.nd, hap.off⟩ (fun e' he => ?_) hI hIf hm
  · simp only [refsOf, List.map_append, List.map_cons, List.map_nil]; exact .tail _ (.tail _ (.head _))
  · simp only [En.objs, List.mem_cons, List.not_mem_nil, or_false] at hp
    rcases hp with rfl | rfl | rfl | rfl
    · exact .tail _ (.tail _ (.tail _ (.head _)))
    · exact .tail _ (.tail _ (.tail _ (.tail _ (.head _))))
    · exact .tail _ (.head _)
    · exact .head _
  · rcases List.mem_append.mp he with he | he
    · exact (hok e' (List.mem_append_left _ he)).le (Nat.le_succ _)
    · rw [List.mem_singleton.mp he]
      exact ⟨ok.ss, ok.rs, Nat.le_succ_of_le ok.vl, Nat.le_succ_of_le ok.rl, hde, hra⟩
theorem turn_new {e2 : En} (F : Fr h₀ L h' m₂) (N : News h₀ L h' ((lO, W.listOf (List.toArray (refsOf (pre ++ [e]) ++ [.ref e2.a])) n') :: (e2.objs P ++ (e.objs P ++ (flatE P pre ++ own2))))) (hos : ∀ p ∈ own, p ∈ own2) (hpl : pre.length + 1 ≤ 4) (hap : Apart P lO e2 (pre ++ [e])) (hok : ∀ e' ∈ pre ++ [e], EnOk i e') (hok2 : EnOk (i + 1) e2)
    (hI : lO ≠ I ∧ e2.rl ≠ I ∧ e2.ua ≠ I ∧ e2.a ≠ I ∧ e2.dx ≠ I) (hIf : ∀ p ∈ flatE P (pre ++ [e]), p.1 ≠ I) (hm : ∀ y, y ∉ cs → m₂ y = m₀ y) : LoopStepU h₀ L [I] own (fun m news => (∀ y, y ∉ cs → m y = m₀ y) ∧ OnesW P lO (i + 1) news) s₁ .next { s₁ with heap := h', toks := tk } := by
  have e0 : flatE P (pre ++ [e]) = flatE P pre ++ e.objs P := by simp [flatE]
  refine ones_step (pre := pre ++ [e]) (e := e2) (c := n') F N (fun p hp => .tail _ (List.mem_append_right _ (List.mem_append_right _ (List.mem_append_right _ (hos p hp))))) ?_ (fun p hp => .tail _ (List.mem_append_left _ hp)) (fun p hp => ?_) (by simpa using hpl) hap (fun e' he => ?_) hI hIf hm
  · simp only [refsOf, List.map_append, List.map_cons, List.map_nil]; exact .head _
  · rw [e0] at hp
    rcases List.mem_append.mp hp with hp | hp
    · exact .tail _ (List.mem_append_right _ (List.mem_append_right _ (List.mem_append_left _ hp)))
    · exact .tail _ (List.mem_append_right _ (List.mem_append_left _ hp))
  · rcases List.mem_append.mp he with he | he
    · exact (hok e' he).le (Nat.le_succ _)
    · rw [List.mem_singleton.mp he]; exact hok2
end
theorem five_at {v0 v1 v2 v3 v4 : Value} (q : Int) : ∃ v, (v = v0 ∨ v = v1 ∨ v = v2 ∨ v = v3 ∨ v = v4) ∧ [v0, v1, v2, v3, v4][(q.fmod 5).toNat]? = some v := by
  have h0 : 0 ≤ q.fmod 5 := Int.fmod_nonneg_of_pos _ (by decide)
  have h5 : q.fmod 5 < 5 := Int.fmod_lt_of_pos _ (by decide)
  have : (q.fmod 5).toNat < 5 := by omega
  match hh : (q.fmod 5).toNat, this with
  | 0, _ => exact ⟨v0, .inl rfl, rfl⟩
  | 1, _ => exact ⟨v1, .inr (.inl rfl), rfl⟩
  | 2, _ => exact ⟨v2, .inr (.inr (.inl rfl)), rfl⟩
  | 3, _ => exact ⟨v3, .inr (.inr (.inr (.inl rfl))), rfl⟩
  | 4, _ => exact ⟨v4, .inr (.inr (.inr (.inr rfl))), rfl⟩
theorem three_at {v0 v1 v2 : Value} (q : Int) : ∃ v, (v = v0 ∨ v = v1 ∨ v = v2) ∧ [v0, v1, v2][(q.fmod 3).toNat]? = some v := by
  have h0 : 0 ≤ q.fmod 3 := Int.fmod_nonneg_of_pos _ (by decide)
  have h5 : q.fmod 3 < 3 := Int.fmod_lt_of_pos _ (by decide)
  have : (q.fmod 3).toNat < 3 := by omega
  match hh : (q.fmod 3).toNat, this with
  | 0, _ => exact ⟨v0, .inl rfl, rfl⟩
  | 1, _ => exact ⟨v1, .inr (.inl rfl), rfl⟩
  | 2, _ => exact ⟨v2, .inr (.inr rfl), rfl⟩
theorem fmod_fit (q : Int) {d : Int} (h : 0 < d) (h2 : d ≤ 10) : 0 ≤ q.fmod d ∧ q.fmod d < 2 ^ 63 := by
  have h0 : 0 ≤ q.fmod d := Int.fmod_nonneg_of_pos _ h
  have h5 : q.fmod d < d := Int.fmod_lt_of_pos _ h
  omega
section
open PyProof.V PySem.Spec
variable {prog : Program} {w : World} {A : Around} {E : Value → Shared → Prop} {s : Shared} {env : Env} {h₀ : Heap} {x : Str} {body : List Stmt} {Q : Flow → Shared → Prop}
/-- iter_listK, which also hands the turn that its iterator is new -/
theorem iter_listK2 {D : Addr} {items : Array Value} {m₀ : Str → Option Value} {news : List (Addr × Obj)} (cs : List Str) (J : Nat → List (Addr × Obj) → Prop) (hh : A.handled = none) (hl : s.heap.IsList D items) (hD : env.locals ≠ D) (F : Fr h₀ env.locals s.heap m₀) (N : News h₀ env.locals s.heap news) (hj : J 0 news)
    (turn : ∀ i v u news₁ h tk I own, i < items.size → items[i]? = some v → J i news₁ → (∀ p ∈ news₁, p.1 ≠ I) → (∀ p ∈ own, p.1 = I ∨ p.1 = D) → (∃ o, h.get? I = some o) → env.locals ≠ I → h₀.get? I = none → Fr h₀ env.locals h (fun y => if y = x then some v else overs cs u m₀ y) → News h₀ env.locals h (news₁ ++ own) →
      wpAny (model prog w) A (execs body env) (LoopStepV h₀ env.locals [I] own (fun m news => (∀ y, y ∉ x :: cs → m y = m₀ y) ∧ J (i + 1) news) { s with heap := h, toks := tk } (fun v s' => Q (.ret v) s') fun s' => Q .next s') E { s with heap := h, toks := tk })
    (done : ∀ u news₁ h tk, J items.size news₁ → Fr h₀ env.locals h (overs (x :: cs) u m₀) → News h₀ env.locals h news₁ → Q .next { s with heap := h, toks := tk }) :
    wpAny (model prog w) A (pyIter (.ref D)) (fun it s₂ => LoopAtV prog w A h₀ env x body Q E it s₂) E s := by
  have lta : @LT.lt Nat _ D s.heap.objs.size := by obtain ⟨o, ho, _⟩ := hl; exact Heap.lt_size ho
  refine wpAny_pyIter_list hl ?_
  refine ⟨s.heap.objs.size, [s.heap.objs.size, D], [s.heap.objs.size], items.size, _, _, m₀, news, fun i m news => (∀ y, y ∉ x :: cs → m y = m₀ y) ∧ J i news, rfl, Walks.list hh s.heap.objs.size D (Nat.ne_of_lt lta) items, ?_, fun b hb => by rw [List.mem_singleton.mp hb]; exact next_is_new F, fun p hp hI => absurd (Heap.lt_size (N p hp).1) (List.mem_singleton.mp hI ▸ Nat.lt_irrefl _), ⟨⟨_, Heap.get?_push_size _ rfl, rfl, rfl⟩, hl.at fun o e => Heap.get?_push_of_some _ e⟩, F.push _, (fun p hp => ⟨Heap.get?_push_of_some _ (N p hp).1, (N p hp).2⟩), ⟨fun _ _ => rfl, hj⟩, ?_, ?_⟩
  · intro hm
    rcases List.mem_cons.mp hm with hm | hm
    · exact Nat.ne_of_lt F.ns.lt hm
    · exact hD (List.mem_singleton.mp hm)
  · rintro i v m₁ news₁ s₁ own ⟨h, tk, rfl⟩ hi hP ⟨hm, hJ⟩ hoff hown hget hback ⟨⟨o, ho, hi1⟩, hi2⟩ F₁ N₁
    rw [over_head hm] at F₁
    refine turn i v m₁ news₁ h tk _ own hi hP hJ (fun p hp e => hoff p hp (List.mem_singleton.mpr e)) (fun p hp => ?_) ⟨o, ho⟩ (Nat.ne_of_lt F.ns.lt) (next_is_new F) F₁ (fun p hp => N₁ p ((List.mem_append.mp hp).elim (List.mem_append_right _) (List.mem_append_left _)))
    rcases List.mem_cons.mp (hown p hp) with e | e
    · exact .inl e
    · exact .inr (List.mem_singleton.mp e)
  · rintro h tk m₁ news₁ F₁ N₁ hoff ⟨hm, hJ⟩
    rw [overs_eq hm] at F₁
    exact done m₁ news₁ h tk hJ F₁ N₁
end
theorem mem_rot5 {α : Type} {a b c d f x : α} {r : List α} (h : x ∈ f :: d :: a :: b :: c :: r) : x ∈ a :: b :: c :: d :: f :: r := by
  simp only [List.mem_cons] at h ⊢
  rcases h with h | h | h | h | h | h
  · exact .inr (.inr (.inr (.inr (.inl h))))
  · exact .inr (.inr (.inr (.inl h)))
  · exact .inl h
  · exact .inr (.inl h)
  · exact .inr (.inr (.inl h))
  · exact .inr (.inr (.inr (.inr (.inr h))))
theorem mem_mid4 {α : Type} {a b c d f x : α} {r : List α} (h : x ∈ f :: a :: b :: c :: d :: r) : x ∈ a :: b :: c :: d :: f :: r := by
  simp only [List.mem_cons] at h ⊢
  rcases h with h | h | h | h | h | h
  · exact .inr (.inr (.inr (.inr (.inl h))))
  · exact .inl h
  · exact .inr (.inl h)
  · exact .inr (.inr (.inl h))
  · exact .inr (.inr (.inr (.inl h)))
  · exact .inr (.inr (.inr (.inr (.inr h))))
end Mine
namespace Mine
open PySem.Builtin

/-- the three objects of a book -/
def bkObjs (d : Bk) : List (Addr × Obj) := [(d.b, W.listOf #[.ref d.A, .ref d.R, d.de, d.ra] d.k), (d.A, W.listOf d.vs.toArray d.n), (d.R, W.listOf d.rs.toArray d.m)]
/-- a book tells an entry's data -/
structure BookOf (e : En) (d : Bk) : Prop where
  vs : d.vs = e.vs
  rs : d.rs = e.rs
  ss : d.ss = e.ss
  de : d.de = e.de
  ra : d.ra = e.ra
/-- the word of `[_law_parts(one) for one in ones]` -/
def BooksW (es : List En) : EachW := fun i ys objs => ∃ bs : List Bk, bs.length = i ∧ ys = bs.map (fun d => Value.ref d.b) ∧ (∀ d ∈ bs, ∀ p ∈ bkObjs d, p ∈ objs) ∧ ∀ (j : Nat) (e : En) (d : Bk), es[j]? = some e → bs[j]? = some d → BookOf e d
theorem books_zero (es : List En) : BooksW es 0 [] [] := ⟨[], rfl, rfl, (fun _ h => nomatch h), (fun _ _ _ _ h => nomatch h)⟩
theorem books_step {es : List En} {i : Nat} {ys : List Value} {objs : List (Addr × Obj)} {e : En} {d : Bk} (h : BooksW es i ys objs) (he : es[i]? = some e) (hd : BookOf e d) : BooksW es (i + 1) (ys ++ [.ref d.b]) (bkObjs d ++ objs) := by
  obtain ⟨bs, hl, rfl, hm, hb⟩ := h
  refine ⟨bs ++ [d], by simp [hl], by simp, fun d' hd' p hp => ?_, fun j e' d' he' hd' => ?_⟩
  · rcases List.mem_append.mp hd' with h | h
    · exact List.mem_append_right _ (hm d' h p hp)
    · rw [List.mem_singleton.mp h] at hp; exact List.mem_append_left _ hp
  · by_cases hj : j < bs.length
    · rw [List.getElem?_append_left hj] at hd'
      exact hb j e' d' he' hd'
    · rw [List.getElem?_append_right (Nat.le_of_not_lt hj)] at hd'
      have hj2 : j - bs.length = 0 := by
        apply Classical.byContradiction
        intro hne
        rw [List.getElem?_eq_none (by simp; omega)] at hd'
        cases hd'
      rw [hj2] at hd'
      have hji : j = i := by omega
      rw [hji, he] at he'
      cases Option.some.inj he'
      cases Option.some.inj (show some d = some d' from hd')
      exact hd
theorem book_objs {h : Heap} {d : Bk} (b : Book h d.b d.A d.R d.vs d.rs d.de d.ra d.k d.n d.m) : ∀ p ∈ bkObjs d, h.get? p.1 = some p.2 := by
  intro p hp
  simp only [bkObjs, List.mem_cons, List.not_mem_nil, or_false] at hp
  rcases hp with rfl | rfl | rfl
  · exact b.at_
  · exact b.ags
  · exact b.rus
theorem objs_book {h : Heap} {d : Bk} (b : ∀ p ∈ bkObjs d, h.get? p.1 = some p.2) : Book h d.b d.A d.R d.vs d.rs d.de d.ra d.k d.n d.m := ⟨b _ (.head _), b _ (.tail _ (.head _)), b _ (.tail _ (.tail _ (.head _)))⟩
theorem ent_of {P : Params} {h : Heap} {e : En} (hq : ∀ p ∈ e.objs P, h.get? p.1 = some p.2) : Ent P h e.a e.dx e.ua e.rl e.vs e.rs e.de e.ra e.t1 e.t2 e.t3 e.t4 e.n e.m :=
  ⟨hq _ (.tail _ (.tail _ (.head _))), hq _ (.tail _ (.tail _ (.tail _ (.head _)))), hq _ (.tail _ (.head _)), hq _ (.head _)⟩
theorem objs_mem {P : Params} {x : Addr × Obj} {e e1 : En} {pre : List En} (h : e1 ∈ pre ++ [e]) : ∀ p ∈ e1.objs P, p ∈ x :: (e.objs P ++ flatE P pre) := fun p hp => by
  rcases List.mem_append.mp h with h | h
  · exact .tail _ (List.mem_append_right _ (List.mem_flatMap.mpr ⟨e1, h, hp⟩))
  · rw [List.mem_singleton.mp h] at hp; exact .tail _ (List.mem_append_left _ hp)
theorem okV_handed {v : Value} (h : okV v) : handedIn v = true := by
  rcases h with rfl | ⟨n, t, rfl⟩ <;> rfl
theorem refs_at {es : List En} {i : Nat} {v : Value} (h : (refsOf es)[i]? = some v) : ∃ e, es[i]? = some e ∧ v = .ref e.a := by
  rw [refsOf, List.getElem?_map] at h
  cases e : es[i]? with
  | none => rw [e] at h; cases h
  | some x => rw [e] at h; exact ⟨x, rfl, (Option.some.inj h).symm⟩
end Mine
namespace Mine
open PySem.Builtin

/-- a row of the table at its start: its list and its only cell's list -/
structure Cel where
  (r c : Addr)
def celObjs (e : En) (d : Cel) : List (Addr × Obj) := [(d.r, W.listOf #[.ref d.c] 0), (d.c, W.listOf #[.ref e.a] 0)]
/-- the word of `[[[one]] for one in ones]` -/
def TableW (es : List En) : EachW := fun i ys objs => ∃ cs : List Cel, cs.length = i ∧ ys = cs.map (fun d => Value.ref d.r) ∧ (@List.Nodup Nat (cs.map (·.r)) ∧ (∀ d ∈ cs, ∀ d' ∈ cs, d.r ≠ d'.c) ∧ ∀ d ∈ cs, (∃ o, (d.r, o) ∈ objs) ∧ ∃ o, (d.c, o) ∈ objs) ∧ ∀ (j : Nat) (e : En) (d : Cel), es[j]? = some e → cs[j]? = some d → ∀ p ∈ celObjs e d, p ∈ objs
theorem table_zero (es : List En) : TableW es 0 [] [] := ⟨[], rfl, rfl, ⟨.nil, (fun _ h => nomatch h), (fun _ h => nomatch h)⟩, (fun _ _ _ _ h => nomatch h)⟩
theorem table_step {es : List En} {i : Nat} {ys : List Value} {objs : List (Addr × Obj)} {e : En} {d : Cel} (h : TableW es i ys objs) (he : es[i]? = some e) (h1 : ∀ p ∈ objs, p.1 ≠ d.r) (h2 : ∀ p ∈ objs, p.1 ≠ d.c) (h3 : d.r ≠ d.c) : TableW es (i + 1) (ys ++ [.ref d.r]) (celObjs e d ++ objs) := by
  obtain ⟨cs, hl, rfl, ⟨hnd, hrc, hio⟩, hb⟩ := h
  refine ⟨cs ++ [d], by simp [hl], by simp, ⟨?_, ?_, ?_⟩, fun j e' d' he' hd' => ?_⟩
  · rw [List.map_append]
    refine List.nodup_append.mpr ⟨hnd, by simp, ?_⟩
    intro a ha b hb' hab
    obtain ⟨d', hd', rfl⟩ := List.mem_map.mp ha
    obtain rfl : b = d.r := List.mem_singleton.mp hb'
    obtain ⟨o, ho⟩ := (hio d' hd').1
    exact h1 _ ho hab
  · intro a ha b hb'
    rcases List.mem_append.mp ha with ha | ha <;> rcases List.mem_append.mp hb' with hb' | hb'
    · exact hrc a ha b hb'
    · rw [List.mem_singleton.mp hb']
      obtain ⟨o, ho⟩ := (hio a ha).1
      exact h2 _ ho
    · rw [List.mem_singleton.mp ha]
      obtain ⟨o, ho⟩ := (hio b hb').2
      exact (h1 _ ho).symm
    · rw [List.mem_singleton.mp ha, List.mem_singleton.mp hb']; exact h3
  · intro a ha
    rcases List.mem_append.mp ha with ha | ha
    · obtain ⟨⟨o, ho⟩, o2, ho2⟩ := hio a ha
      exact ⟨⟨o, List.mem_append_right _ ho⟩, o2, List.mem_append_right _ ho2⟩
    · rw [List.mem_singleton.mp ha]
      exact ⟨⟨_, .head _⟩, _, .tail _ (.head _)⟩
  · by_cases hj : j < cs.length
    · rw [List.getElem?_append_left hj] at hd'
      exact fun p hp => List.mem_append_right _ (hb j e' d' he' hd' p hp)
    · rw [List.getElem?_append_right (Nat.le_of_not_lt hj)] at hd'
      have hj2 : j - cs.length = 0 := by
        apply Classical.byContradiction
        intro hne
        rw [List.getElem?_eq_none (by simp; omega)] at hd'
        cases hd'
      rw [hj2] at hd'
      have hji : j = i := by omega
      rw [hji, he] at he'
      cases Option.some.inj he'
      cases Option.some.inj (show some d = some d' from hd')
      exact fun p hp => List.mem_append_left _ hp
end Mine
namespace Mine
open PySem.Builtin
section
open PyProof.V PySem.Spec
variable {prog : Program} {w : World} {A : Around} {E : Value → Shared → Prop} {s : Shared} {env : Env} {h₀ : Heap} {x : Str} {body : List Stmt} {Q : Flow → Shared → Prop}
/-- a loop over a range, which carries names and hands the turn that its iterator is new -/
theorem iter_rangeK2 {r : Addr} {a₀ b₀ : Int} {t₀ u₀ v₀ : Tok} {n : Nat} {m₀ : Str → Option Value} {news : List (Addr × Obj)} (cs : List Str) (J : Nat → List (Addr × Obj) → Prop)
    (hh : A.handled = none) (hr : IsRange s.heap r a₀ b₀ 1 t₀ u₀ v₀) (hsmall : Builtin.Range.small a₀ b₀ 1 = true) (hn : Builtin.Range.rangeSize a₀ b₀ 1 = (n : Int)) (F : Fr h₀ env.locals s.heap m₀) (N : News h₀ env.locals s.heap news) (hj : J 0 news)
    (turn : ∀ i t u news₁ h tk I own, i < n → J i news₁ → (∀ p ∈ news₁, p.1 ≠ I) → (∀ p ∈ own, p.1 = I) → (∃ o, h.get? I = some o) → env.locals ≠ I → h₀.get? I = none → Fr h₀ env.locals h (fun y => if y = x then some (.int (a₀ + (i : Int)) t) else overs cs u m₀ y) → News h₀ env.locals h (news₁ ++ own) →
      wpAny (model prog w) A (execs body env) (LoopStepV h₀ env.locals [I] own (fun m news => (∀ y, y ∉ x :: cs → m y = m₀ y) ∧ J (i + 1) news) { s with heap := h, toks := tk } (fun v s' => Q (.ret v) s') fun s' => Q .next s') E { s with heap := h, toks := tk })
    (done : ∀ u news₁ h tk, J n news₁ → Fr h₀ env.locals h (overs (x :: cs) u m₀) → News h₀ env.locals h news₁ → Q .next { s with heap := h, toks := tk }) :
    wpAny (model prog w) A (pyIter (.ref r)) (fun it s₂ => LoopAtV prog w A h₀ env x body Q E it s₂) E s := by
  refine wpAny_pyIter_range hr hsmall ?_
  have W : Walks prog w A s.heap.objs.size [s.heap.objs.size] [s.heap.objs.size] n (fun i v => i < n ∧ ∃ t, v = .int (a₀ + i * 1) t)
      (fun i h => IsRangeIter h s.heap.objs.size (a₀ + (i : Nat) * 1) ((n : Int) - (i : Nat)) 1) := (Walks.range hh _ a₀ 1 n).bound
  refine ⟨s.heap.objs.size, [s.heap.objs.size], [s.heap.objs.size], n, _, _, m₀, news, fun i m news => (∀ y, y ∉ x :: cs → m y = m₀ y) ∧ J i news, rfl, W, ?_, fun b hb => by rw [List.mem_singleton.mp hb]; exact next_is_new F, fun p hp hI => absurd (Heap.lt_size (N p hp).1) (List.mem_singleton.mp hI ▸ Nat.lt_irrefl _), (by show IsRangeIter _ _ _ _ _; rw [hn]; simpa using Heap.get?_push_size _ rfl), F.push _, (fun p hp => ⟨Heap.get?_push_of_some _ (N p hp).1, (N p hp).2⟩), ⟨fun _ _ => rfl, hj⟩, ?_, ?_⟩
  · intro hm
    exact Nat.ne_of_lt F.ns.lt (List.mem_singleton.mp hm)
  · rintro i v m₁ news₁ s₁ own ⟨h, tk, rfl⟩ hi ⟨_, t, rfl⟩ ⟨hm, hJ⟩ hoff hown hget hback hst F₁ N₁
    rw [over_head hm, Int.mul_one] at F₁
    exact turn i t m₁ news₁ h tk _ own hi hJ (fun p hp e => hoff p hp (List.mem_singleton.mpr e)) (fun p hp => List.mem_singleton.mp (hown p hp)) ⟨_, hst⟩ (Nat.ne_of_lt F.ns.lt) (next_is_new F) F₁ (fun p hp => N₁ p ((List.mem_append.mp hp).elim (List.mem_append_right _) (List.mem_append_left _)))
  · rintro h tk m₁ news₁ F₁ N₁ hoff ⟨hm, hJ⟩
    rw [overs_eq hm] at F₁
    exact done m₁ news₁ h tk hJ F₁ N₁
end
end Mine
namespace Mine
open PySem.Builtin

/-- what a stretch of books is due -/
structure DueOf (l : List Bk) (e : En) : Prop where
  ss : ∀ d0 r, l = d0 :: r → e.ss = d0.ss.filter (inAll l)
  rs : e.rs = l.flatMap fun d => d.rs
  de : e.de = lastOf (·.de) l
  ra : e.ra = lastOf (·.ra) l
/-- a book of the law's -/
structure BkOk (d : Bk) : Prop where
  ss : StrsAre d.vs d.ss
  rs : ∃ ns, IntsAre d.rs ns
  vl : d.vs.length ≤ 63
  rl : d.rs.length ≤ 63
  de : okV d.de
  ra : okV d.ra
theorem okV_none {v : Value} (h : okV v) : (if v == Value.none then Value.none else v) = v := by
  rcases h with rfl | ⟨n, t, rfl⟩ <;> rfl
theorem last_from (f : Bk → Value) (l : List Bk) : ∀ acc : Value, l.foldl (fun acc d => if f d == .none then acc else f d) acc = if lastOf f l == .none then acc else lastOf f l := by
  induction l with
  | nil => intro acc; rfl
  | cons d t ih =>
    intro acc
    have e : lastOf f (d :: t) = if lastOf f t == .none then (if f d == .none then Value.none else f d) else lastOf f t := ih _
    rw [List.foldl_cons, ih, e]
    cases h1 : (lastOf f t == Value.none) with
    | true =>
      simp only [if_true]
      cases h2 : (f d == Value.none) with
      | true => rfl
      | false => simp [h2]
    | false => simp [h1]
theorem last_app (f : Bk → Value) (l1 l2 : List Bk) : lastOf f (l1 ++ l2) = if lastOf f l2 == .none then lastOf f l1 else lastOf f l2 := by
  show (l1 ++ l2).foldl _ _ = _
  rw [List.foldl_append, last_from]
  rfl
theorem last_ok (f : Bk → Value) (l : List Bk) (h : ∀ d ∈ l, okV (f d)) : okV (lastOf f l) := by
  have key : ∀ (l : List Bk) (acc : Value), okV acc → (∀ d ∈ l, okV (f d)) → okV (l.foldl (fun acc d => if f d == .none then acc else f d) acc) := by
    intro l
    induction l with
    | nil => intro acc h _; exact h
    | cons d t ih =>
      intro acc ha hd
      refine ih _ ?_ fun d' h' => hd d' (.tail _ h')
      show okV (if f d == Value.none then acc else f d)
      cases h2 : (f d == Value.none) with
      | true => exact ha
      | false => exact hd d (.head _)
  exact key l _ (.inl rfl) h
theorem inAll_app (a b : List Bk) (x : Str) : inAll (a ++ b) x = (inAll a x && inAll b x) := by simp [inAll]
theorem inAll_head {d : Bk} {r : List Bk} {x : Str} (h : inAll (d :: r) x = true) : x ∈ d.ss := by
  have : (d.ss.any fun a => decide (x = a)) = true := by
    simp only [inAll, List.all_cons, Bool.and_eq_true] at h; exact h.1
  obtain ⟨a, ha, e⟩ := List.any_eq_true.mp this
  rw [of_decide_eq_true e]; exact ha
theorem any_filter {l : List Str} {p : Str → Bool} {x : Str} (h : p x = true → x ∈ l) : ((l.filter p).any fun a => decide (x = a)) = p x := by
  cases hp : p x with
  | true => exact List.any_eq_true.mpr ⟨x, List.mem_filter.mpr ⟨h hp, hp⟩, decide_eq_true rfl⟩
  | false =>
    cases hq : ((l.filter p).any fun a => decide (x = a)) with
    | false => rfl
    | true =>
      obtain ⟨a, ha, e⟩ := List.any_eq_true.mp hq
      rw [of_decide_eq_true e] at hp
      rw [(List.mem_filter.mp ha).2] at hp; cases hp
theorem DueOf.merge {l1 l2 : List Bk} {e1 e2 e : En} (h1 : DueOf l1 e1) (h2 : DueOf l2 e2) (n1 : l1 ≠ []) (n2 : l2 ≠ []) (hs : e.ss = e1.ss.filter fun k => e2.ss.any fun a => decide (k = a)) (hr : e.rs = e1.rs ++ e2.rs)
    (hd : e.de = if e2.de == .none then e1.de else e2.de) (hq : e.ra = if e2.ra == .none then e1.ra else e2.ra) : DueOf (l1 ++ l2) e := by
  refine ⟨fun d0 r h => ?_, by rw [hr, h1.rs, h2.rs, List.flatMap_append], by rw [hd, h1.de, h2.de, last_app], by rw [hq, h1.ra, h2.ra, last_app]⟩
  obtain ⟨a, l1', rfl⟩ := List.exists_cons_of_ne_nil n1
  obtain ⟨b, l2', rfl⟩ := List.exists_cons_of_ne_nil n2
  obtain ⟨rfl, _⟩ := List.cons.inj h
  rw [hs, h1.ss _ _ rfl, h2.ss _ _ rfl, List.filter_filter]
  refine List.filter_congr fun x _ => ?_
  rw [any_filter (p := inAll (b :: l2')) inAll_head, inAll_app, Bool.and_comm]
theorem DueOf.one {d : Bk} {e : En} (h : BookOf e d) (ho : BkOk d) : DueOf [d] e := by
  refine ⟨fun d0 r hr => ?_, by rw [← h.rs]; simp, ?_, ?_⟩
  · obtain ⟨rfl, rfl⟩ := List.cons.inj hr
    rw [← h.ss]
    refine (List.filter_eq_self.mpr fun x hx => ?_).symm
    simp only [inAll, List.all_cons, List.all_nil, Bool.and_true]
    exact List.any_eq_true.mpr ⟨x, hx, decide_eq_true rfl⟩
  · rw [← h.de]; exact (okV_none ho.de).symm
  · rw [← h.ra]; exact (okV_none ho.ra).symm
theorem ints_flat {l : List Bk} (h : ∀ d ∈ l, ∃ ns, IntsAre d.rs ns) : ∃ ns, IntsAre (l.flatMap fun d => d.rs) ns := by
  induction l with
  | nil => exact ⟨[], .nil⟩
  | cons d t ih =>
    obtain ⟨n1, h1⟩ := h d (.head _)
    obtain ⟨n2, h2⟩ := ih fun d' h' => h d' (.tail _ h')
    rw [List.flatMap_cons]
    refine ⟨n1 ++ n2, ?_⟩
    clear h ih
    revert h1
    generalize d.rs = v
    intro h1
    induction h1 with
    | nil => exact h2
    | cons x t _ ih => exact .cons x t ih
theorem rules_le {l : List Bk} (h : ∀ d ∈ l, d.rs.length ≤ 63) : (l.flatMap fun d => d.rs).length ≤ 63 * l.length := by
  induction l with
  | nil => simp
  | cons d t ih =>
    have h1 := h d (.head _)
    have h2 := ih fun e he => h e (.tail _ he)
    rw [List.flatMap_cons, List.length_append, List.length_cons]; omega
theorem DueOf.ok {l : List Bk} {e : En} (h : DueOf l e) (hs : StrsAre e.vs e.ss) (n : l ≠ []) (hl : l.length ≤ 5) (hb : ∀ d ∈ l, BkOk d) : EnOk 315 e := by
  obtain ⟨d, r, rfl⟩ := List.exists_cons_of_ne_nil n
  refine ⟨hs, by rw [h.rs]; exact ints_flat fun d hd => (hb d hd).rs, ?_, ?_, ?_, ?_⟩
  · rw [hs.length, h.ss _ _ rfl]
    have h1 := List.length_filter_le (inAll (d :: r)) d.ss
    have h2 := (hb d (.head _)).vl
    rw [(hb d (.head _)).ss.length] at h2
    omega
  · rw [h.rs]
    have := rules_le fun d hd => (hb d hd).rl
    omega
  · rw [h.de]; exact last_ok _ _ fun d hd => (hb d hd).de
  · rw [h.ra]; exact last_ok _ _ fun d hd => (hb d hd).ra
theorem strs_eqAt {vs ws : List Value} {ss : List Str} (h1 : StrsAre vs ss) (h2 : StrsAre ws ss) : vs.length = ws.length ∧ ∀ j (a : j < vs.length) (b : j < ws.length), ∀ (A' : Around) s', SeqAt.EqAt A' s' vs[j] ws[j] true := by
  refine ⟨h1.length.trans h2.length.symm, fun j a b A' s' => ?_⟩
  have hj : j < ss.length := h1.length ▸ a
  obtain ⟨t1, e1⟩ := h1.get j _ (List.getElem?_eq_getElem hj)
  obtain ⟨t2, e2⟩ := h2.get j _ (List.getElem?_eq_getElem hj)
  rw [List.getElem?_eq_getElem a] at e1
  rw [List.getElem?_eq_getElem b] at e2
  rw [Option.some.inj e1, Option.some.inj e2]
  have := SeqAt.EqAt.str_str (A := A') (s := s') ss[j] t1 ss[j] t2
  rwa [beq_self_eq_true] at this
theorem same_eqAt {vs ws : List Value} (h : vs = ws) : vs.length = ws.length ∧ ∀ j (a : j < vs.length) (b : j < ws.length), ∀ (A' : Around) s', SeqAt.EqAt A' s' vs[j] ws[j] true := by
  subst h
  exact ⟨rfl, fun j _ _ _ _ => SeqAt.EqAt.same _⟩
theorem okV_plain {v : Value} (h : okV v) : PySem.plainIs v .none = true := by
  rcases h with rfl | ⟨n, t, rfl⟩ <;> rfl

/-- a stretch of the books -/
def stretch (bs : List Bk) (j c : Nat) : List Bk := (bs.drop j).take (c + 1)
theorem stretch_len {bs : List Bk} {j c : Nat} (h : j + c < bs.length) : (stretch bs j c).length = c + 1 := by simp [stretch]; omega
theorem stretch_ne {bs : List Bk} {j c : Nat} (h : j + c < bs.length) : stretch bs j c ≠ [] := fun e => by
  have := stretch_len h; rw [e] at this; cases this
theorem stretch_mem {bs : List Bk} {j c : Nat} {d : Bk} (h : d ∈ stretch bs j c) : d ∈ bs := List.mem_of_mem_drop (List.mem_of_mem_take h)
theorem stretch_cut {bs : List Bk} {j a k : Nat} (h : a < k) : stretch bs j k = stretch bs j a ++ stretch bs (j + a + 1) (k - a - 1) := by
  simp only [stretch]
  rw [show k + 1 = (a + 1) + (k - a - 1 + 1) by omega, List.take_add, List.drop_drop]
  rfl
theorem stretch_one {bs : List Bk} {j : Nat} {d : Bk} (h : bs[j]? = some d) : stretch bs j 0 = [d] := by
  obtain ⟨h1, h2⟩ := List.getElem?_eq_some_iff.mp h
  simp only [stretch, Nat.zero_add]
  rw [List.drop_eq_getElem_cons h1, h2]; rfl
end Mine
namespace Mine
open PySem.Builtin

section
variable {prog : Program} {w : World} {A : Around} {E : Value → Shared → Prop} {s : Shared} {h₀ : Heap} {L D : Addr} {m : Str → Option Value} {vs : List Value} {n : Nat} {news : List (Addr × Obj)} {v : Value} {Q : Value → Shared → Prop}
/-- a list of the ledger's, wherever it stands, grows -/
theorem app_at (F : Fr h₀ L s.heap m) (N : News h₀ L s.heap news) (hm : (D, W.listOf vs.toArray n) ∈ news) (hsz : vs.length ≤ 100000)
    (h : ∀ h' n', Fr h₀ L h' m → (∀ news', (∀ p ∈ news', p = (D, W.listOf (vs ++ [v]).toArray n') ∨ (p ∈ news ∧ p.1 ≠ D)) → News h₀ L h' news') → Q .none { s with heap := h' }) :
    wpAny (model prog w) A (call (.builtin "list.append") [.ref D, v]) Q E s := by
  have z := N _ hm
  refine wpAny_list_append_plain (hsz := by rw [sizeLine_eq, List.size_toArray]; omega) ⟨n, z.1⟩ fun h' hl hs => ?_
  obtain ⟨n', hl⟩ := hl
  refine h h' n' ⟨F.ns.sameBut hs (Ne.symm z.2.1), fun b ob e => (hs.2 b (fun q => ?_)).trans (F.keep b ob e), F.above⟩ fun news' hn p hp => ?_
  · rw [q, z.2.2] at e; cases e
  · rcases hn p hp with rfl | ⟨h1, h2⟩
    · refine ⟨?_, z.2⟩
      rw [hl]; simp [W.listOf]
    · exact ⟨(hs.2 p.1 h2).trans (N p h1).1, (N p h1).2⟩
end

/-- a cell of the table -/
structure CelT where
  c : Addr
  es : List En
  n : Nat
structure CelOk (P : Params) (objs : List (Addr × Obj)) (l : List Bk) (d : CelT) : Prop where
  ne : d.es ≠ []
  sz : d.es.length ≤ 5
  at_ : (d.c, W.listOf (List.toArray (refsOf d.es)) d.n) ∈ objs
  ob : ∀ p ∈ flatE P d.es, p ∈ objs
  st : ∀ e ∈ d.es, StrsAre e.vs e.ss
  du : ∀ e ∈ d.es, DueOf l e
theorem CelOk.more {P : Params} {objs objs' : List (Addr × Obj)} {l : List Bk} {d : CelT} (h : CelOk P objs l d) (k : ∀ p ∈ objs, p ∈ objs') : CelOk P objs' l d := ⟨h.ne, h.sz, k _ h.at_, fun p hp => k p (h.ob p hp), h.st, h.du⟩
abbrev rowVals (l : List CelT) : List Value := l.map fun d => Value.ref d.c
def rowsOf (ra : Nat → Addr) (T : Nat → List CelT) (cap : Nat → Nat) (n : Nat) : List (Addr × Obj) := (List.range n).map fun j => (ra j, W.listOf (List.toArray (rowVals (T j))) (cap j))
structure TabA (P : Params) (n : Nat) (ra : Nat → Addr) (bs : List Bk) (base fix : List (Addr × Obj)) (T : Nat → List CelT) (objs : List (Addr × Obj)) : Prop where
  base : ∀ p ∈ base, p ∈ objs
  apart : ∀ p ∈ objs ++ fix, ∀ j, j < n → p.1 ≠ ra j
  fixed : ∀ p ∈ objs, ∀ q ∈ fix, p.1 ≠ q.1
  cells : ∀ j, j < n → ∀ c d, (T j)[c]? = some d → CelOk P objs (stretch bs j c) d
def TabW (P : Params) (n : Nat) (ra : Nat → Addr) (bs : List Bk) (base fix : List (Addr × Obj)) (cnt : Nat → Nat) (news : List (Addr × Obj)) : Prop :=
  ∃ T cap objs, news = rowsOf ra T cap n ++ (objs ++ fix) ∧ TabA P n ra bs base fix T objs ∧ ∀ j, j < n → (T j).length = cnt j
theorem row_at {ra : Nat → Addr} {T : Nat → List CelT} {cap : Nat → Nat} {n j : Nat} (h : j < n) : (ra j, W.listOf (List.toArray (rowVals (T j))) (cap j)) ∈ rowsOf ra T cap n := List.mem_map.mpr ⟨j, List.mem_range.mpr h, rfl⟩
theorem rows_push {ra : Nat → Addr} {T : Nat → List CelT} {cap : Nat → Nat} {n j c' : Nat} {d : CelT} (hj : j < n) (inj : ∀ i j, i < n → j < n → ra i = ra j → i = j) :
    ∀ p ∈ rowsOf ra (fun i => if i = j then T i ++ [d] else T i) (fun i => if i = j then c' else cap i) n, p = (ra j, W.listOf (rowVals (T j) ++ [Value.ref d.c]).toArray c') ∨ (p ∈ rowsOf ra T cap n ∧ p.1 ≠ ra j) := by
  intro p hp
  obtain ⟨i, hi, rfl⟩ := List.mem_map.mp hp
  have hi := List.mem_range.mp hi
  by_cases e : i = j
  · left
    subst e
    simp [rowVals]
  · right
    refine ⟨?_, fun h => e (inj i j hi hj h)⟩
    simp only [if_neg e]
    exact row_at hi
theorem tab_push {P : Params} {n : Nat} {ra : Nat → Addr} {bs : List Bk} {base fix : List (Addr × Obj)} {T : Nat → List CelT} {objs more : List (Addr × Obj)} {j : Nat} {d : CelT} (A : TabA P n ra bs base fix T objs)
    (hd : CelOk P (more ++ objs) (stretch bs j (T j).length) d) (h1 : ∀ p ∈ more, ∀ j, j < n → p.1 ≠ ra j) (h2 : ∀ p ∈ more, ∀ q ∈ fix, p.1 ≠ q.1) :
    TabA P n ra bs base fix (fun i => if i = j then T i ++ [d] else T i) (more ++ objs) := by
  refine ⟨fun p hp => List.mem_append_right _ (A.base p hp), fun p hp => ?_, fun p hp => ?_, fun i hi c d' hc => ?_⟩
  · rcases List.mem_append.mp hp with hp | hp
    · rcases List.mem_append.mp hp with hp | hp
      · exact h1 p hp
      · exact A.apart p (List.mem_append_left _ hp)
    · exact A.apart p (List.mem_append_right _ hp)
  · rcases List.mem_append.mp hp with hp | hp
    · exact h2 p hp
    · exact A.fixed p hp
  · by_cases e : i = j
    · subst e
      simp only [if_true] at hc
      by_cases hlt : c < (T i).length
      · rw [List.getElem?_append_left hlt] at hc
        exact (A.cells i hi c d' hc).more fun p hp => List.mem_append_right _ hp
      · rw [List.getElem?_append_right (Nat.le_of_not_lt hlt)] at hc
        have h0 : c - (T i).length = 0 := by
          apply Classical.byContradiction
          intro hne
          rw [List.getElem?_eq_none (by simp; omega)] at hc
          cases hc
        rw [h0] at hc
        cases Option.some.inj (show some d = some d' from hc)
        rw [show c = (T i).length by omega]
        exact hd
    · simp only [if_neg e] at hc
      exact (A.cells i hi c d' hc).more fun p hp => List.mem_append_right _ hp

theorem tab_in {P : Params} {n : Nat} {ra : Nat → Addr} {bs : List Bk} {base own : List (Addr × Obj)} {T : Nat → List CelT} {cap : Nat → Nat} {objs : List (Addr × Obj)} {I : Addr} {oI : Obj} (A : TabA P n ra bs base [] T objs)
    (hoff : ∀ p ∈ rowsOf ra T cap n ++ (objs ++ []), p.1 ≠ I) (hown : ∀ p ∈ own, p.1 = I) : TabA P n ra bs base ((I, oI) :: own) T objs := by
  have hf : ∀ p ∈ (I, oI) :: own, p.1 = I := fun p hp => by
    rcases List.mem_cons.mp hp with rfl | hp
    · rfl
    · exact hown p hp
  refine ⟨A.base, fun p hp j hj => ?_, fun p hp q hq => ?_, A.cells⟩
  · rcases List.mem_append.mp hp with hp | hp
    · exact A.apart p (List.mem_append_left _ hp) j hj
    · rw [hf p hp]
      exact (hoff _ (List.mem_append_left _ (row_at hj))).symm
  · rw [hf q hq]
    exact hoff p (List.mem_append_right _ (List.mem_append_left _ hp))
theorem tab_out {P : Params} {n : Nat} {ra : Nat → Addr} {bs : List Bk} {base own : List (Addr × Obj)} {T : Nat → List CelT} {cap : Nat → Nat} {objs : List (Addr × Obj)} {I : Addr} {oI : Obj} (A : TabA P n ra bs base ((I, oI) :: own) T objs) :
    TabA P n ra bs base [] T objs ∧ ∀ p ∈ rowsOf ra T cap n ++ (objs ++ []), p.1 ≠ I := by
  refine ⟨⟨A.base, fun p hp j hj => A.apart p (List.mem_append_left _ (by simpa using hp)) j hj, (fun p _ q hq => nomatch hq), A.cells⟩, fun p hp => ?_⟩
  rcases List.mem_append.mp hp with hp | hp
  · obtain ⟨j, hj, rfl⟩ := List.mem_map.mp hp
    exact (A.apart (I, oI) (List.mem_append_right _ (.head _)) j (List.mem_range.mp hj)).symm
  · exact A.fixed p (by simpa using hp) (I, oI) (.head _)

/-- the word of the innermost loop -/
def CutW (P : Params) (lR : Addr) (l : List Bk) (rest : List (Addr × Obj)) (i : Nat) (news : List (Addr × Obj)) : Prop :=
  ∃ (es : List En) (nR : Nat), news = (lR, W.listOf (List.toArray (refsOf es)) nR) :: (flatE P es ++ rest) ∧ es.length = i ∧ (∀ e ∈ es, StrsAre e.vs e.ss ∧ DueOf l e) ∧ ∀ p ∈ flatE P es, p.1 ≠ lR ∧ ∀ q ∈ rest, p.1 ≠ q.1
section
variable {P : Params} {lR I L : Addr} {h₀ h' : Heap} {i : Nat} {own rest : List (Addr × Obj)} {m₀ m₂ : Str → Option Value} {cs : List Str} {s₁ : Shared} {tk : Nat} {l : List Bk}
theorem cut_step {es : List En} {e : En} {n' : Nat} {news : List (Addr × Obj)} (F : Fr h₀ L h' m₂) (hN : ∀ news', (∀ p ∈ news', p = (lR, W.listOf (refsOf es ++ [Value.ref e.a]).toArray n') ∨ (p ∈ news ∧ p.1 ≠ lR)) → News h₀ L h' news')
    (h1 : ∀ p ∈ own, p ∈ news ∧ p.1 ≠ lR) (h2 : ∀ p ∈ flatE P es ++ rest, p ∈ news ∧ p.1 ≠ lR) (h3 : ∀ p ∈ e.objs P, p ∈ news ∧ p.1 ≠ lR) (hi : es.length = i) (hes : ∀ e ∈ es, StrsAre e.vs e.ss ∧ DueOf l e) (hap : ∀ p ∈ flatE P es, p.1 ≠ lR ∧ ∀ q ∈ rest, p.1 ≠ q.1)
    (he : StrsAre e.vs e.ss ∧ DueOf l e) (her : ∀ p ∈ e.objs P, p.1 ≠ I ∧ ∀ q ∈ rest, p.1 ≠ q.1) (hI : lR ≠ I) (hIf : ∀ p ∈ flatE P es ++ rest, p.1 ≠ I) (hm : ∀ y, y ∉ cs → m₂ y = m₀ y) :
    LoopStepU h₀ L [I] own (fun m news => (∀ y, y ∉ cs → m y = m₀ y) ∧ CutW P lR l rest (i + 1) news) s₁ .next { s₁ with heap := h', toks := tk } := by
  have e0 : flatE P (es ++ [e]) = flatE P es ++ e.objs P := by simp [flatE]
  have e1 : refsOf (es ++ [e]) = refsOf es ++ [Value.ref e.a] := by simp [refsOf]
  refine LoopStepU.intro F (news₂ := (lR, W.listOf (List.toArray (refsOf (es ++ [e]))) n') :: (flatE P (es ++ [e]) ++ rest)) (hN _ fun p hp => ?_) (fun p hp => ?_) ⟨hm, es ++ [e], n', rfl, by simp [hi], fun e' he' => ?_, fun p hp => ?_⟩
  · rcases List.mem_append.mp hp with hp | hp
    · exact .inr (h1 p hp)
    · rcases List.mem_cons.mp hp with rfl | hp
      · left; rw [e1]
      · rw [e0] at hp
        rcases List.mem_append.mp hp with hp | hp
        · rcases List.mem_append.mp hp with hp | hp
          · exact .inr (h2 p (List.mem_append_left _ hp))
          · exact .inr (h3 p hp)
        · exact .inr (h2 p (List.mem_append_right _ hp))
  · rw [List.mem_singleton]
    rcases List.mem_cons.mp hp with rfl | hp
    · exact hI
    · rw [e0] at hp
      rcases List.mem_append.mp hp with hp | hp
      · rcases List.mem_append.mp hp with hp | hp
        · exact hIf p (List.mem_append_left _ hp)
        · exact (her p hp).1
      · exact hIf p (List.mem_append_right _ hp)
  · rcases List.mem_append.mp he' with he' | he'
    · exact hes e' he'
    · rw [List.mem_singleton.mp he']; exact he
  · rw [e0] at hp
    rcases List.mem_append.mp hp with hp | hp
    · exact hap p hp
    · exact ⟨(h3 p hp).2, (her p hp).2⟩
end
theorem slice_refs {vs : List Value} {x y : Int} (h : 0 ≤ x) (h2 : 0 ≤ y) : slicePick vs.toArray (some x) (some y) none = List.toArray ((vs.drop x.toNat).take (y.toNat - x.toNat)) := by
  have e : sliceBounds (some x) (some y) none vs.toArray.size = (((min x.toNat vs.toArray.size : Nat) : Int), ((min y.toNat vs.toArray.size : Nat) : Int), 1) := by
    simp only [sliceBounds, Option.getD_none, show (1 : Int) > 0 by decide, if_true, if_neg (show ¬ (x < 0) by omega), if_neg (show ¬ (y < 0) by omega)]
    congr 1
    · omega
    · congr 1
      omega
  rw [kmk_pick_nat _ e]
  congr 1
  show (vs.drop (min x.toNat vs.toArray.size)).take (min y.toNat vs.toArray.size - min x.toNat vs.toArray.size) = _
  rw [List.size_toArray, kmk_drop_min]
  have hl : (vs.drop x.toNat).length = vs.length - x.toNat := List.length_drop
  rcases Nat.le_total y.toNat vs.length with hy | hy
  · rw [Nat.min_eq_left hy]
    rcases Nat.le_total x.toNat vs.length with hx | hx
    · rw [Nat.min_eq_left hx]
    · rw [List.take_of_length_le (by rw [hl]; omega), List.take_of_length_le (by rw [hl]; omega)]
  · rw [Nat.min_eq_right hy, List.take_of_length_le (by rw [hl]; omega), List.take_of_length_le (by rw [hl]; omega)]
end Mine
namespace Mine
open PySem.Builtin

theorem BookOf.ok {e : En} {d : Bk} (h : BookOf e d) (k : EnOk 63 e) : BkOk d :=
  ⟨by rw [h.vs, h.ss]; exact k.ss, by rw [h.rs]; exact k.rs, by rw [h.vs]; exact k.vl, by rw [h.rs]; exact k.rl, by rw [h.de]; exact k.de, by rw [h.ra]; exact k.ra⟩
theorem books_ok {os : List En} {bs : List Bk} (hbl : bs.length = os.length) (hok : ∀ e ∈ os, EnOk 63 e) (hbo : ∀ (j : Nat) (e : En) (d : Bk), os[j]? = some e → bs[j]? = some d → BookOf e d) : ∀ d ∈ bs, BkOk d := by
  intro d hd
  obtain ⟨j, hj⟩ := List.mem_iff_getElem?.mp hd
  have hlt : j < os.length := hbl ▸ (List.getElem?_eq_some_iff.mp hj).1
  have he := List.getElem?_eq_getElem hlt
  exact (hbo j _ d he hj).ok (hok _ (List.mem_of_getElem? he))
/-- the table at its start -/
theorem tab_start {P : Params} {os : List En} {bs : List Bk} {cs : List Cel} {lT : Addr} {oT : Obj} {objsT more : List (Addr × Obj)} {h4 : Heap} (hcl : cs.length = os.length) (hbl : bs.length = os.length)
    (hc : @List.Nodup Nat (cs.map (·.r)) ∧ (∀ d ∈ cs, ∀ d' ∈ cs, d.r ≠ d'.c) ∧ ∀ d ∈ cs, (∃ o, (d.r, o) ∈ objsT) ∧ ∃ o, (d.c, o) ∈ objsT) (hco : ∀ (j : Nat) (e : En) (d : Cel), os[j]? = some e → cs[j]? = some d → ∀ p ∈ celObjs e d, p ∈ objsT)
    (hnT : ∀ p ∈ objsT ++ more, p.1 ≠ lT) (hnew : ∀ p ∈ objsT, h4.get? p.1 = none) (hm : ∀ p ∈ more, h4.get? p.1 = some p.2) (hos : ∀ e ∈ os, ∀ p ∈ e.objs P, p ∈ more) (hok : ∀ e ∈ os, EnOk 63 e)
    (hbo : ∀ (j : Nat) (e : En) (d : Bk), os[j]? = some e → bs[j]? = some d → BookOf e d) :
    ∃ ra : Nat → Addr, (∀ i j, i < os.length → j < os.length → ra i = ra j → i = j) ∧ cs.map (fun d => Value.ref d.r) = (List.range os.length).map (fun j => Value.ref (ra j)) ∧
      ∃ news, TabW P os.length ra bs ((lT, oT) :: more) [] (fun j => min 1 (os.length - j)) news ∧ ∀ p ∈ news, p ∈ (lT, oT) :: (objsT ++ more) := by
  obtain ⟨hnd, hrc, hio⟩ := hc
  have cat : ∀ {j : Nat}, j < os.length → cs[j]? = some (cs.getD j ⟨0, 0⟩) := fun {j} h => by
    rw [List.getD_eq_getElem?_getD, List.getElem?_eq_getElem (hcl ▸ h)]; rfl
  have cmem : ∀ {j : Nat}, j < os.length → cs.getD j ⟨0, 0⟩ ∈ cs := fun h => List.mem_of_getElem? (cat h)
  have oat : ∀ {j : Nat} (h : j < os.length), os[j]? = some os[j] := fun h => List.getElem?_eq_getElem h
  refine ⟨fun j => (cs.getD j ⟨0, 0⟩).r, ?_, ?_, ?_⟩
  · intro i j hi hj e
    have h1 : (cs.map (·.r))[i]? = some (cs.getD i ⟨0, 0⟩).r := by rw [List.getElem?_map, cat hi]; rfl
    have h2 : (cs.map (·.r))[j]? = some (cs.getD j ⟨0, 0⟩).r := by rw [List.getElem?_map, cat hj]; rfl
    dsimp only at e
    rw [e] at h1
    exact (List.getElem?_inj (by rw [List.length_map, hcl]; exact hi) hnd).mp (h1.trans h2.symm)
  · refine List.ext_getElem? fun j => ?_
    by_cases hj : j < os.length
    · rw [List.getElem?_map, cat hj, List.getElem?_map, List.getElem?_range hj]; rfl
    · rw [List.getElem?_eq_none (by rw [List.length_map]; omega), List.getElem?_eq_none (by rw [List.length_map, List.length_range]; omega)]
  refine ⟨rowsOf (fun j => (cs.getD j ⟨0, 0⟩).r) (fun j => (os[j]?.toList).map fun e => ⟨(cs.getD j ⟨0, 0⟩).c, [e], 0⟩) (fun _ => 0) os.length ++ ((((List.range os.length).flatMap fun j => (os[j]?.toList).map fun e => ((cs.getD j ⟨0, 0⟩).c, W.listOf (List.toArray (refsOf [e])) 0)) ++ ((lT, oT) :: more)) ++ []), ⟨_, _, _, rfl, ⟨?_, ?_, ?_, ?_⟩, ?_⟩, ?_⟩
  · exact fun p hp => List.mem_append_right _ hp
  · intro p hp j hj
    obtain ⟨o, ho⟩ := (hio _ (cmem hj)).1
    rw [List.append_nil] at hp
    rcases List.mem_append.mp hp with hp | hp
    · obtain ⟨i, hi, hp⟩ := List.mem_flatMap.mp hp
      obtain ⟨e, _, rfl⟩ := List.mem_map.mp hp
      exact (hrc _ (cmem hj) _ (cmem (List.mem_range.mp hi))).symm
    · rcases List.mem_cons.mp hp with rfl | hp
      · exact (hnT _ (List.mem_append_left _ ho)).symm
      · exact ne_base (hm p hp) (hnew _ ho)
  · exact fun p _ q hq => nomatch hq
  · intro j hj c d hd
    simp only [oat hj, Option.toList_some, List.map_cons, List.map_nil] at hd
    have hc0 : c = 0 := by
      apply Classical.byContradiction
      intro hne
      rw [List.getElem?_eq_none (by simp; omega)] at hd
      cases hd
    subst hc0
    obtain rfl := Option.some.inj hd
    have hjb : j < bs.length := hbl ▸ hj
    have hb := List.getElem?_eq_getElem hjb
    have hB := hbo j _ _ (oat hj) hb
    have hk := hok _ (List.getElem_mem hj)
    refine ⟨by simp, by simp, ?_, ?_, ?_, ?_⟩
    · refine List.mem_append_left _ (List.mem_flatMap.mpr ⟨j, List.mem_range.mpr hj, ?_⟩)
      rw [oat hj]; exact .head _
    · intro p hp
      simp only [flatE, List.flatMap_cons, List.flatMap_nil, List.append_nil] at hp
      exact List.mem_append_right _ (.tail _ (hos _ (List.getElem_mem hj) p hp))
    · intro e he
      rw [List.mem_singleton.mp he]; exact hk.ss
    · intro e he
      rw [List.mem_singleton.mp he, stretch_one hb]
      exact DueOf.one hB (hB.ok hk)
  · intro j hj
    simp only [oat hj, Option.toList_some, List.map_cons, List.map_nil, List.length_cons, List.length_nil]
    omega
  · intro p hp
    rcases List.mem_append.mp hp with hp | hp
    · obtain ⟨j, hj, rfl⟩ := List.mem_map.mp hp
      have hj := List.mem_range.mp hj
      refine .tail _ (List.mem_append_left _ (hco j _ _ (oat hj) (cat hj) _ ?_))
      simp only [oat hj, celObjs]
      exact .head _
    · rw [List.append_nil] at hp
      rcases List.mem_append.mp hp with hp | hp
      · obtain ⟨j, hj, hp⟩ := List.mem_flatMap.mp hp
        have hj := List.mem_range.mp hj
        rw [oat hj] at hp
        rw [List.mem_singleton.mp hp]
        refine .tail _ (List.mem_append_left _ (hco j _ _ (oat hj) (cat hj) _ ?_))
        exact .tail _ (.head _)
      · rcases List.mem_cons.mp hp with rfl | hp
        · exact .head _
        · exact .tail _ (List.mem_append_right _ hp)
end Mine
namespace Mine
open PySem.Builtin

theorem last_ref {es : List En} (h : es ≠ []) : ∃ e ∈ es, (refsOf es)[((-1 : Int) + ((refsOf es).length : Int)).toNat]? = some (.ref e.a) := by
  refine ⟨es.getLast h, List.getLast_mem h, ?_⟩
  have h0 : 0 < es.length := List.length_pos_iff.mpr h
  have e1 : ((-1 : Int) + ((refsOf es).length : Int)).toNat = es.length - 1 := by rw [List.length_map]; omega
  rw [e1, refsOf, List.getElem?_map, ← List.getLast?_eq_getElem?, List.getLast?_eq_some_getLast h]
  rfl
theorem first_ref {es : List En} (h : es ≠ []) : ∃ e ∈ es, (refsOf es)[0]? = some (.ref e.a) := by
  obtain ⟨a, t, rfl⟩ := List.exists_cons_of_ne_nil h
  exact ⟨a, .head _, rfl⟩
theorem ref_row {n j : Nat} {ra : Nat → Addr} (h : j < n) : ((List.range n).map fun j => Value.ref (ra j))[j]? = some (.ref (ra j)) := by
  rw [List.getElem?_map, List.getElem?_range h]; rfl
theorem cell_row {l : List CelT} {c : Nat} {d : CelT} (h : l[c]? = some d) : (rowVals l)[c]? = some (.ref d.c) := by
  rw [List.getElem?_map, h]; rfl
theorem start_step {P : Params} {n i i1 : Nat} {ra : Nat → Addr} {bs : List Bk} {base fix own2 rest3 : List (Addr × Obj)} {T : Nat → List CelT} {cap : Nat → Nat} {objs : List (Addr × Obj)} {lR I2 L : Addr} {oI2 : Obj} {es : List En} {nR n' : Nat}
    {h₀ h' : Heap} {m₀ m₂ : Str → Option Value} {cs : List Str} {s₁ : Shared} {tk : Nat} {news : List (Addr × Obj)}
    (A : TabA P n ra bs base fix T objs) (hcnt : ∀ j, j < n → (T j).length = if j < i1 then min (i + 2) (n - j) else min (i + 1) (n - j)) (hi : i1 < n - (i + 1)) (hn : n ≤ 5) (inj : ∀ i j, i < n → j < n → ra i = ra j → i = j)
    (hoff : ∀ p ∈ rowsOf ra T cap n ++ (objs ++ fix), p.1 ≠ I2) (hown : ∀ p ∈ own2, p.1 = I2) (mI2 : (I2, oI2) ∈ rest3) (mown : ∀ p ∈ own2, p ∈ rest3) (mtab : ∀ p ∈ rowsOf ra T cap n ++ (objs ++ fix), p ∈ rest3) (hR : ∀ p ∈ rest3, p.1 ≠ lR)
    (hes : es.length = i + 1) (heD : ∀ e ∈ es, StrsAre e.vs e.ss ∧ DueOf (stretch bs i1 (i + 1)) e) (heA : ∀ p ∈ flatE P es, p.1 ≠ lR ∧ ∀ q ∈ rest3, p.1 ≠ q.1)
    (F : Fr h₀ L h' m₂) (hN : ∀ news', (∀ p ∈ news', p = (ra i1, W.listOf (rowVals (T i1) ++ [Value.ref lR]).toArray n') ∨ (p ∈ news ∧ p.1 ≠ ra i1)) → News h₀ L h' news')
    (hnews : ∀ p ∈ (lR, W.listOf (List.toArray (refsOf es)) nR) :: (flatE P es ++ rest3), p ∈ news) (hm : ∀ y, y ∉ cs → m₂ y = m₀ y) :
    LoopStepU h₀ L [I2] own2 (fun m news => (∀ y, y ∉ cs → m y = m₀ y) ∧ TabW P n ra bs base fix (fun j => if j < i1 + 1 then min (i + 2) (n - j) else min (i + 1) (n - j)) news) s₁ .next { s₁ with heap := h', toks := tk } := by
  have hlt : i1 < n := by omega
  have hT : (T i1).length = i + 1 := by rw [hcnt i1 hlt, if_neg (Nat.lt_irrefl _)]; omega
  have hrow := row_at (ra := ra) (T := T) (cap := cap) hlt
  have hnR : ∀ p ∈ (lR, W.listOf (List.toArray (refsOf es)) nR) :: flatE P es, ∀ q ∈ rest3, p.1 ≠ q.1 := by
    intro p hp q hq
    rcases List.mem_cons.mp hp with rfl | hp
    · exact (hR q hq).symm
    · exact (heA p hp).2 q hq
  have hd : CelOk P (((lR, W.listOf (List.toArray (refsOf es)) nR) :: flatE P es) ++ objs) (stretch bs i1 (T i1).length) ⟨lR, es, nR⟩ := by
    rw [hT]
    refine ⟨fun e => ?_, ?_, .head _, fun p hp => List.mem_append_left _ (.tail _ hp), fun e he => (heD e he).1, fun e he => (heD e he).2⟩
    · have hz : es.length = 0 := congrArg List.length e
      omega
    · show es.length ≤ 5; omega
  have A2 := tab_push A hd (fun p hp j hj => hnR p hp _ (mtab _ (List.mem_append_left _ (row_at hj)))) (fun p hp q hq => hnR p hp q (mtab _ (List.mem_append_right _ (List.mem_append_right _ hq))))
  refine LoopStepU.intro F (news₂ := rowsOf ra (fun i => if i = i1 then T i ++ [⟨lR, es, nR⟩] else T i) (fun i => if i = i1 then n' else cap i) n ++ ((((lR, W.listOf (List.toArray (refsOf es)) nR) :: flatE P es) ++ objs) ++ fix)) (hN _ fun p hp => ?_) (fun p hp => ?_) ⟨hm, _, _, _, rfl, A2, fun j hj => ?_⟩
  · rcases List.mem_append.mp hp with hp | hp
    · refine .inr ⟨hnews p (.tail _ (List.mem_append_right _ (mown p hp))), ?_⟩
      rw [hown p hp]
      exact (hoff _ (List.mem_append_left _ hrow)).symm
    · rcases List.mem_append.mp hp with hp | hp
      · rcases rows_push (cap := cap) hlt inj p hp with h | ⟨h1, h2⟩
        · exact .inl h
        · exact .inr ⟨hnews p (.tail _ (List.mem_append_right _ (mtab p (List.mem_append_left _ h1)))), h2⟩
      · refine .inr ⟨?_, A2.apart p hp i1 hlt⟩
        rcases List.mem_append.mp hp with hp | hp
        · rcases List.mem_append.mp hp with hp | hp
          · rcases List.mem_cons.mp hp with rfl | hp
            · exact hnews _ (.head _)
            · exact hnews p (.tail _ (List.mem_append_left _ hp))
          · exact hnews p (.tail _ (List.mem_append_right _ (mtab p (List.mem_append_right _ (List.mem_append_left _ hp)))))
        · exact hnews p (.tail _ (List.mem_append_right _ (mtab p (List.mem_append_right _ (List.mem_append_right _ hp)))))
  · rw [List.mem_singleton]
    rcases List.mem_append.mp hp with hp | hp
    · obtain ⟨j, hj, rfl⟩ := List.mem_map.mp hp
      exact hoff (ra j, W.listOf (List.toArray (rowVals (T j))) (cap j)) (List.mem_append_left _ (row_at (List.mem_range.mp hj)))
    · rcases List.mem_append.mp hp with hp | hp
      · rcases List.mem_append.mp hp with hp | hp
        · exact hnR p hp _ mI2
        · exact hoff p (List.mem_append_right _ (List.mem_append_left _ hp))
      · exact hoff p (List.mem_append_right _ (List.mem_append_right _ hp))
  · by_cases e : j = i1
    · subst e
      simp only [if_true, List.length_append, List.length_cons, List.length_nil, hT]
      rw [if_pos (Nat.lt_succ_self _)]
      omega
    · simp only [if_neg e]
      rw [hcnt j hj]
      by_cases h : j < i1
      · rw [if_pos h, if_pos (by omega)]
      · rw [if_neg h, if_neg (by omega)]
theorem range_one {prog : Program} {w : World} {A : Around} {E : Value → Shared → Prop} {s : Shared} {h₀ : Heap} {L : Addr} {m : Str → Option Value} {news : List (Addr × Obj)} {n : Int} {t : Tok} {Q : Value → Shared → Prop} (F : Fr h₀ L s.heap m) (N : News h₀ L s.heap news)
    (h : ∀ h' tk r a b c, IsRange h' r 0 n 1 a b c → Fr h₀ L h' m → News h₀ L h' news → Q (.ref r) { s with heap := h', toks := tk }) : wpAny (model prog w) A (call (.type "range") [.int n t]) Q E s :=
  call_range_1 (h _ _ _ _ _ _ (IsRange.new ..) (F.push _) (kept_news N fun _ _ e => Heap.get?_push_of_some _ e))
end Mine
namespace Mine
open PySem.Builtin
section
variable {prog : Program} {w : World} {mean : ExcName → Option Value} {mg mb : Str → Option Value} {A : Around} {s : Shared} {Q E : Value → Shared → Prop}
/-- merge_spec, told of entries -/
theorem merge_en {e1 e2 : En} (C : Cx (hd5.heap_39 w.params) hd5.view_39 (looseW hd5.view_39 []) mean mg mb A s.heap 10)
    (E1 : ∀ p ∈ e1.objs w.params, s.heap.get? p.1 = some p.2) (E2 : ∀ p ∈ e2.objs w.params, s.heap.get? p.1 = some p.2) (o1 : EnOk 315 e1) (o2 : EnOk 315 e2)
    (hQ : ∀ h' tk (e : En), s.heap.StaysIn h' → (∀ p ∈ e.objs w.params, s.heap.get? p.1 = none ∧ h'.get? p.1 = some p.2) → StrsAre e.vs e.ss → e.ss = (e1.ss.filter fun k => e2.ss.any fun a => decide (k = a)) → e.rs = e1.rs ++ e2.rs →
      e.de = (if e2.de == .none then e1.de else e2.de) → e.ra = (if e2.ra == .none then e1.ra else e2.ra) → Q (.ref e.a) { s with heap := h', toks := tk }) : wpAny (model prog w) A (call (.ref 70) [.ref e1.a, .ref e2.a]) Q E s := by
  refine merge_spec C (ent_of E1) (ent_of E2) o1.ss o2.ss (by rw [← o1.ss.length]; exact Nat.le_trans o1.vl (by decide)) (by rw [← o2.ss.length]; exact Nat.le_trans o2.vl (by decide)) (Nat.le_trans o1.rl (by decide)) (Nat.le_trans o2.rl (by decide)) (okV_handed o1.de) (okV_handed o2.de) (okV_handed o1.ra) (okV_handed o2.ra) (okV_plain o2.de) (okV_plain o2.ra)
    fun h' tk a dx ua rl vs de ra t1 t2 t3 t4 n m hde hra st f1 f2 f3 f4 hE hvs => ?_
  refine hQ h' tk ⟨a, dx, ua, rl, vs, e1.rs ++ e2.rs, e1.ss.filter fun k => e2.ss.any fun a => decide (k = a), de, ra, t1, t2, t3, t4, n, m⟩ st (fun p hp => ?_) hvs rfl rfl hde hra
  simp only [En.objs, List.mem_cons, List.not_mem_nil, or_false] at hp
  rcases hp with rfl | rfl | rfl | rfl
  · exact ⟨f4, hE.rls⟩
  · exact ⟨f3, hE.uas⟩
  · exact ⟨f1, hE.at_⟩
  · exact ⟨f2, hE.dict⟩
/-- right_spec, told of entries -/
theorem right_en {e1 e2 e3 : En} {b DA DR : Addr} {vsD : List Value} {d0 : Bk} {dr : List Bk} {k n m : Nat} (C : Cx (hd5.heap_39 w.params) hd5.view_39 (looseW hd5.view_39 []) mean mg mb A s.heap 14)
    (E1 : ∀ p ∈ e1.objs w.params, s.heap.get? p.1 = some p.2) (E2 : ∀ p ∈ e2.objs w.params, s.heap.get? p.1 = some p.2) (E3 : ∀ p ∈ e3.objs w.params, s.heap.get? p.1 = some p.2)
    (B : Book s.heap b DA DR vsD ((d0 :: dr).flatMap fun d => d.rs) (lastOf (·.de) (d0 :: dr)) (lastOf (·.ra) (d0 :: dr)) k n m) (hss : StrsAre vsD (d0.ss.filter (inAll (d0 :: dr)))) (o : EnOk 315 e1) (hD : DueOf (d0 :: dr) e1)
    (x1 : e1.ua ≠ e2.ua) (x2 : e1.ua ≠ e3.ua) (x3 : e1.rl ≠ e2.rl) (x4 : e1.rl ≠ e3.rl) (hQ : ∀ h' tk, s.heap.StaysIn h' → Q (.bool true) { s with heap := h', toks := tk }) : wpAny (model prog w) A (call (.ref 89) [.ref e1.a, .ref e2.a, .ref e3.a, .ref b]) Q E s :=
  right_spec C (ent_of E1) (ent_of E2) (ent_of E3) B (Nat.le_trans o.vl (by decide)) (Nat.le_trans o.rl (by decide)) (okV_handed o.de) (okV_handed o.ra) x1 x2 x3 x4 (strs_eqAt o.ss (by rw [hD.ss _ _ rfl]; exact hss)) (same_eqAt hD.rs) (fun A' s' => by rw [hD.de]; exact .same _) (fun A' s' => by rw [hD.ra]; exact .same _) hQ
theorem ua_ne {P : Params} {h : Heap} {e e1 : En} (f : ∀ p ∈ e.objs P, h.get? p.1 = none) (g : ∀ p ∈ e1.objs P, h.get? p.1 = some p.2) : e.ua ≠ e1.ua := Ne.symm (ne_base (g _ (.tail _ (.head _))) (f _ (.tail _ (.head _))))
theorem rl_ne {P : Params} {h : Heap} {e e1 : En} (f : ∀ p ∈ e.objs P, h.get? p.1 = none) (g : ∀ p ∈ e1.objs P, h.get? p.1 = some p.2) : e.rl ≠ e1.rl := Ne.symm (ne_base (g _ (.head _)) (f _ (.head _)))
end
end Mine
namespace Mine
open PySem.Builtin
section
variable {prog : Program} {w : World} {A : Around} {s : Shared} {Q E : Value → Shared → Prop}
/-- two books of one record are equal -/
theorem book_eqAt {d1 d2 : Bk} (hu : A.units + 3 < cLine) (h1 : ∀ p ∈ bkObjs d1, s.heap.get? p.1 = some p.2) (h2 : ∀ p ∈ bkObjs d2, s.heap.get? p.1 = some p.2) (hb : d1.b ≠ d2.b) (hA : d1.A ≠ d2.A) (hR : d1.R ≠ d2.R)
    (e1 : d1.vs = d2.vs) (e2 : d1.rs = d2.rs) (e3 : d1.de = d2.de) (e4 : d1.ra = d2.ra) : SeqAt.EqAt A s (.ref d1.b) (.ref d2.b) true := by
  have B1 := objs_book h1
  have B2 := objs_book h2
  have lst : ∀ {a : Addr} {its : List Value} {n : Nat}, s.heap.get? a = some (W.listOf its.toArray n) → s.heap.IsList a its.toArray := fun e => ⟨_, e, rfl, _, rfl⟩
  have all_t : ∀ n : Nat, (List.range n).all (fun _ => true) = true := fun n => List.all_eq_true.mpr fun _ _ => rfl
  have u1 : A.in1.units + 1 < cLine := by show A.units + 1 + 1 < _; omega
  have ha := same_eqAt e1
  have hr := same_eqAt e2
  have hA : SeqAt.EqAt A.in1 s (.ref d1.A) (.ref d2.A) true := by
    have := SeqAt.EqAt.of_refs hA (SeqAt.RcAt.lists (A := A.in1) (e := fun _ => true) (lst B1.ags) (lst B2.ags) (by simpa using ha.1) (by omega) (fun j j1 j2 => by simpa using ha.2 j (by simpa using j1) (by simpa using j2) A.in1.in1 s))
    rwa [all_t] at this
  have hR : SeqAt.EqAt A.in1 s (.ref d1.R) (.ref d2.R) true := by
    have := SeqAt.EqAt.of_refs hR (SeqAt.RcAt.lists (A := A.in1) (e := fun _ => true) (lst B1.rus) (lst B2.rus) (by simpa using hr.1) (by omega) (fun j j1 j2 => by simpa using hr.2 j (by simpa using j1) (by simpa using j2) A.in1.in1 s))
    rwa [all_t] at this
  have h := SeqAt.EqAt.of_refs hb (SeqAt.RcAt.lists (A := A) (e := fun _ => true) (s := s) ⟨_, B1.at_, rfl, _, rfl⟩ ⟨_, B2.at_, rfl, _, rfl⟩ rfl (by omega) (fun j j1 j2 => by
    have hj : j = 0 ∨ j = 1 ∨ j = 2 ∨ j = 3 := by
      have : j < 4 := j1
      omega
    rcases hj with rfl | rfl | rfl | rfl
    · exact hA
    · exact hR
    · show SeqAt.EqAt A.in1 s d1.de d2.de true
      rw [e3]; exact .same _
    · show SeqAt.EqAt A.in1 s d1.ra d2.ra true
      rw [e4]; exact .same _))
  rwa [all_t] at h
/-- the law's last comparison -/
theorem eq_books {os : List En} {bs bs2 : List Bk} {lB D : Addr} {cB c : Nat} {h₀ : Heap} (hu : A.units + 4 < cLine) (h1 : bs2.length = os.length) (h2 : bs.length = os.length)
    (hb2 : ∀ (j : Nat) (e : En) (d : Bk), os[j]? = some e → bs2[j]? = some d → BookOf e d) (hb : ∀ (j : Nat) (e : En) (d : Bk), os[j]? = some e → bs[j]? = some d → BookOf e d)
    (hD : s.heap.get? D = some (W.listOf (List.toArray (bs2.map fun d => Value.ref d.b)) c)) (hB : s.heap.get? lB = some (W.listOf (List.toArray (bs.map fun d => Value.ref d.b)) cB))
    (o2 : ∀ d ∈ bs2, ∀ p ∈ bkObjs d, s.heap.get? p.1 = some p.2 ∧ h₀.get? p.1 = none) (o1 : ∀ d ∈ bs, ∀ p ∈ bkObjs d, s.heap.get? p.1 = some p.2 ∧ h₀.get? p.1 = some p.2) (h : Q (.bool true) s) :
    wpAny (model prog w) A (compareOp .Eq (.ref D) (.ref lB)) Q E s := by
  have all_t : ∀ n : Nat, (List.range n).all (fun _ => true) = true := fun n => List.all_eq_true.mpr fun _ _ => rfl
  refine SeqAt.eq_listAt (e := fun _ => true) ⟨_, hD, rfl, _, rfl⟩ ⟨_, hB, rfl, _, rfl⟩ (by simp [h1, h2]) (by omega) (fun j j1 j2 => ?_) (by rw [all_t]; exact h)
  have k2 : j < bs2.length := by simpa using j1
  have k1 : j < bs.length := by simpa using j2
  have k0 : j < os.length := h1 ▸ k2
  have x2 := hb2 j _ _ (List.getElem?_eq_getElem k0) (List.getElem?_eq_getElem k2)
  have x1 := hb j _ _ (List.getElem?_eq_getElem k0) (List.getElem?_eq_getElem k1)
  have y2 := o2 _ (List.getElem_mem k2)
  have y1 := o1 _ (List.getElem_mem k1)
  have ne : ∀ {p q : Addr × Obj}, p ∈ bkObjs bs2[j] → q ∈ bkObjs bs[j] → p.1 ≠ q.1 := fun hp hq => Ne.symm (ne_base (y1 _ hq).2 (y2 _ hp).2)
  have := book_eqAt (A := A.in1) (s := s) (d1 := bs2[j]) (d2 := bs[j]) (by show A.units + 1 + 3 < _; omega) (fun p hp => (y2 p hp).1) (fun p hp => (y1 p hp).1) (ne (.head _) (.head _)) (ne (.tail _ (.head _)) (.tail _ (.head _))) (ne (.tail _ (.tail _ (.head _))) (.tail _ (.tail _ (.head _))))
    (x2.vs.trans x1.vs.symm) (x2.rs.trans x1.rs.symm) (x2.de.trans x1.de.symm) (x2.ra.trans x1.ra.symm)
  simpa using this
end
end Mine
namespace Mine
open PySem.Builtin

local macro_rules | `(tactic| walk_at "my steps") => `(tactic| repeat' (first | (k_unfold; (try dsimp only)) | ((fail_if_success (with_reducible show wpAny _ _ (pyIter _) _ _ _)); (fail_if_success (with_reducible show Exists _)); (fail_if_success (with_reducible show wpAny _ _ (exec (Stmt.For _ _ _ _ _) _) _ _ _)); (fail_if_success (with_reducible show wpAny _ _ (call (Value.ref _) _) _ _ _)); (fail_if_success (with_reducible show wpAny _ _ (PySem.eval (PySem.Expr.ListComp _ _ _ _) _) _ _ _)); (fail_if_success (with_reducible show wpAny _ _ (exec (Stmt.Assign _ (PySem.Expr.ListComp _ _ _ _) _) _) _ _ _)); (first | walk1 | (dsimp only; walk1)); (try dsimp only))))

local macro_rules | `(tactic| walk_at "my few") => `(tactic| repeat' (first | (k_unfold; (try dsimp only)) | ((fail_if_success (with_reducible show wpAny _ _ (pyIter _) _ _ _)); (fail_if_success (with_reducible show Exists _)); (fail_if_success (with_reducible show wpAny _ _ (subscriptTail _ _ _ _) _ _ _)); (fail_if_success (with_reducible show wpAny _ _ (PySem.eval (PySem.Expr.ListComp _ _ _ _) _) _ _ _)); (fail_if_success (with_reducible show wpAny _ _ (exec (Stmt.Assign _ (PySem.Expr.ListComp _ _ _ _) _) _) _ _ _)); (fail_if_success (with_reducible show wpAny _ _ (setAttr _ _ _) _ _ _)); (fail_if_success (with_reducible show wpAny _ _ (getAttr _ _ _) _ _ _)); (fail_if_success (with_reducible show wpAny _ _ (exec (Stmt.For _ _ _ _ _) _) _ _ _)); (fail_if_success (with_reducible show wpAny _ _ (call _ _) _ _ _)); (first | walk1 | (dsimp only; walk1)); (try dsimp only))))
local macro_rules | `(tactic| walk_at "my own") => `(tactic| repeat' (first | (k_unfold; (try dsimp only)) | ((fail_if_success (with_reducible show wpAny _ _ (pyIter _) _ _ _)); (fail_if_success (with_reducible show Exists _)); (fail_if_success (with_reducible show wpAny _ _ (newList _) _ _ _)); (fail_if_success (with_reducible show wpAny _ _ (subscriptTail _ _ _ _) _ _ _)); (fail_if_success (with_reducible show wpAny _ _ (PySem.eval (PySem.Expr.ListComp _ _ _ _) _) _ _ _)); (fail_if_success (with_reducible show wpAny _ _ (exec (Stmt.Assign _ (PySem.Expr.ListComp _ _ _ _) _) _) _ _ _)); (fail_if_success (with_reducible show wpAny _ _ (setAttr _ _ _) _ _ _)); (fail_if_success (with_reducible show wpAny _ _ (getAttr _ _ _) _ _ _)); (fail_if_success (with_reducible show wpAny _ _ (exec (Stmt.For _ _ _ _ _) _) _ _ _)); (fail_if_success (with_reducible show wpAny _ _ (call _ _) _ _ _)); (first | walk1 | (dsimp only; walk1)); (try dsimp only))))
end Mine
open Mine PySem.Builtin
local macro_rules | `(tactic| walk_at "my steps") => `(tactic| repeat' (first | (k_unfold; (try dsimp only)) | ((fail_if_success (with_reducible show wpAny _ _ (pyIter _) _ _ _)); (fail_if_success (with_reducible show Exists _)); (fail_if_success (with_reducible show wpAny _ _ (exec (Stmt.For _ _ _ _ _) _) _ _ _)); (fail_if_success (with_reducible show wpAny _ _ (call (Value.ref _) _) _ _ _)); (fail_if_success (with_reducible show wpAny _ _ (PySem.eval (PySem.Expr.ListComp _ _ _ _) _) _ _ _)); (fail_if_success (with_reducible show wpAny _ _ (exec (Stmt.Assign _ (PySem.Expr.ListComp _ _ _ _) _) _) _ _ _)); (first | walk1 | (dsimp only; walk1)); (try dsimp only))))
local macro_rules | `(tactic| walk_at "my few") => `(tactic| repeat' (first | (k_unfold; (try dsimp only)) | ((fail_if_success (with_reducible show wpAny _ _ (pyIter _) _ _ _)); (fail_if_success (with_reducible show Exists _)); (fail_if_success (with_reducible show wpAny _ _ (subscriptTail _ _ _ _) _ _ _)); (fail_if_success (with_reducible show wpAny _ _ (PySem.eval (PySem.Expr.ListComp _ _ _ _) _) _ _ _)); (fail_if_success (with_reducible show wpAny _ _ (exec (Stmt.Assign _ (PySem.Expr.ListComp _ _ _ _) _) _) _ _ _)); (fail_if_success (with_reducible show wpAny _ _ (setAttr _ _ _) _ _ _)); (fail_if_success (with_reducible show wpAny _ _ (getAttr _ _ _) _ _ _)); (fail_if_success (with_reducible show wpAny _ _ (exec (Stmt.For _ _ _ _ _) _) _ _ _)); (fail_if_success (with_reducible show wpAny _ _ (call _ _) _ _ _)); (first | walk1 | (dsimp only; walk1)); (try dsimp only))))
local macro_rules | `(tactic| walk_at "my own") => `(tactic| repeat' (first | (k_unfold; (try dsimp only)) | ((fail_if_success (with_reducible show wpAny _ _ (pyIter _) _ _ _)); (fail_if_success (with_reducible show Exists _)); (fail_if_success (with_reducible show wpAny _ _ (newList _) _ _ _)); (fail_if_success (with_reducible show wpAny _ _ (subscriptTail _ _ _ _) _ _ _)); (fail_if_success (with_reducible show wpAny _ _ (PySem.eval (PySem.Expr.ListComp _ _ _ _) _) _ _ _)); (fail_if_success (with_reducible show wpAny _ _ (exec (Stmt.Assign _ (PySem.Expr.ListComp _ _ _ _) _) _) _ _ _)); (fail_if_success (with_reducible show wpAny _ _ (setAttr _ _ _) _ _ _)); (fail_if_success (with_reducible show wpAny _ _ (getAttr _ _ _) _ _ _)); (fail_if_success (with_reducible show wpAny _ _ (exec (Stmt.For _ _ _ _ _) _) _ _ _)); (fail_if_success (with_reducible show wpAny _ _ (call _ _) _ _ _)); (first | walk1 | (dsimp only; walk1)); (try dsimp only))))
set_option maxRecDepth 100000 in
set_option maxHeartbeats 8000000 in
theorem PySem.Challenge.cw_kn0088_05_holds : PySem.Challenge.rw_kn0088_05.Holds := by
  refine hd5 ?_
  k_go0
  rename Shared => s1
  rename World => w
  rename List Int => ns
  rename List Value => vsS
  rename Frag.In _ _ => KX
  rename Top _ _ _ _ _ _ => hT
  rename IntsAre _ _ => hI
  rename Heap.IsList _ _ _ => hL
  rename ¬ _ => hlen63
  rename_i lS _ _ _ _ _ _ _ _ _ _ _
  have C0 : ∀ env, Cx (hd5.heap_39 w.params) hd5.view_39 (looseW hd5.view_39 []) _ _ _ (callerA.deeper env) _ 30 := fun env => ⟨rfl, by show callerA.depth + 1 + 30 < _; decide, by show callerA.units + 3 + 8 * 30 < _; decide, KX, hT⟩
  walk_at "my steps"
  rename Fr _ _ _ _ => hF0
  rename News _ _ _ _ => hN0
  refine entry_spec (((C0 _).keep (Fr.keep hF0)).le (by decide)) fun h1 tk1 a dx ua rl t1 t2 t3 t4 st1 f1 f2 f3 f4 hE1 o1 o2 o3 => ?_
  have hF1 := kept_fr hF0 st1
  have hN1 := news_ent hF0 hN0 st1 f1 f2 f3 f4 hE1
  have hlt : @LT.lt Nat _ dx a ∧ @LT.lt Nat _ a ua ∧ @LT.lt Nat _ ua rl := ⟨o1, o2, o3⟩
  clear hF0 hN0 hE1 o1 o2 o3
  try dsimp only
  walk_at "my steps"
  rename Fr _ _ _ _ => hF2
  rename News _ _ _ _ => hN2
  rename_i lO _ lO1 _
  have hn63 : ns.length ≤ 63 := by omega
  replace hF2 := fr_as (m' := fun y => if y = Str.ofString "ones" then some (.ref lO) else if y = Str.ofString "script" then some (.ref lS) else none) hF2 (by
    funext y
    show (if y = Str.ofString "ones" then some (Value.ref lO) else List.lookup y [(Str.ofString "script", Value.ref lS)]) = _
    rw [lookup_cons_if]; rfl)
  have hLS : s1.heap.objs.size ≠ lS := by obtain ⟨o, ho, _⟩ := hL; exact (Nat.ne_of_lt (Heap.lt_size ho)).symm
  refine' For_invV s1.heap ?q1 ?q2 ?_ ?q3 ?q4
  case q1 => exact rfl
  case q2 => exact rfl
  case q3 => intro _; rfl
  case q4 => passes_own
  walk_at "my steps"
  refine iter_listK2 [Str.ofString "step", Str.ofString "rest"] (OnesW w.params lO) rfl (hL.at fun o e => hF2.keep _ _ e) hLS hF2 hN2 ?_ ?_ ?_
  · refine ⟨[], ⟨a, dx, ua, rl, [], [], [], .none, .none, t1, t2, t3, t4, 0, 0⟩, 0, rfl, Nat.zero_le _, ⟨?_, fun _ h => nomatch h⟩, ?_⟩
    · have l1 := lO1.1; have l2 := lO1.2.1; have l3 := lO1.2.2.1; have l4 := lO1.2.2.2
      simp only [List.nodup_cons, List.mem_cons, List.not_mem_nil, or_false, not_or, not_false_eq_true, List.nodup_nil, and_true]
      omega
    · intro e he
      rw [List.mem_singleton.mp he]
      exact ⟨.nil, ⟨[], .nil⟩, Nat.le_refl _, Nat.le_refl _, .inl rfl, .inl rfl⟩
  · rintro i v u news₁ h3 tk3 I own0 hi hv ⟨pre, e, c, rfl, hpl, hap, hok⟩ hoff hown ⟨oI, hoI⟩ hLI hbI hF3 hN3
    simp only [overs] at hF3
    have hi' : i < ns.length := by have := hI.length; simpa [this] using hi
    obtain ⟨q, hq⟩ : ∃ q, ns[i]? = some q := ⟨_, List.getElem?_eq_getElem hi'⟩
    obtain ⟨tq, hvq⟩ := hI.get i q hq
    obtain rfl : v = .int q tq := by
      have : vsS[i]? = some v := by simpa using hv
      rw [hvq] at this; exact (Option.some.inj this).symm
    clear hF2 hN2
    have nd := hap.nd
    simp only [List.nodup_cons, List.mem_cons, List.not_mem_nil, or_false, not_or] at nd
    have off : ∀ p ∈ flatE w.params pre, p.1 ≠ lO ∧ p.1 ≠ e.rl ∧ p.1 ≠ e.ua ∧ p.1 ≠ e.a ∧ p.1 ≠ e.dx := fun p hp => by
      have := hap.off p hp
      simp only [List.mem_cons, List.not_mem_nil, or_false, not_or] at this
      exact this
    obtain ⟨olS, holS⟩ : ∃ o, s1.heap.get? lS = some o := by obtain ⟨o, ho, _⟩ := hL; exact ⟨o, ho⟩
    obtain ⟨own, hown2⟩ : ∃ own, own = (I, oI) :: own0 := ⟨_, rfl⟩
    have hos : ∀ p ∈ own0, p ∈ own := fun p hp => hown2 ▸ .tail _ hp
    have hIown : (I, oI) ∈ own := hown2 ▸ .head _
    replace hown : ∀ p ∈ own, p.1 = I ∨ p.1 = lS := fun p hp => by
      rw [hown2] at hp
      rcases List.mem_cons.mp hp with rfl | hp
      · exact .inl rfl
      · exact hown p hp
    replace hN3 : News s1.heap s1.heap.objs.size h3 ((lO, W.listOf (List.toArray (Mine.refsOf (pre ++ [e]))) c) :: (e.objs w.params ++ flatE w.params pre) ++ own) := fun p hp => by
      rcases List.mem_append.mp hp with hp | hp
      · exact hN3 p (List.mem_append_left _ hp)
      · rw [hown2] at hp
        rcases List.mem_cons.mp hp with rfl | hp
        · exact ⟨hoI, Ne.symm hLI, hbI⟩
        · exact hN3 p (List.mem_append_right _ hp)
    clear hown2
    have ownNe : ∀ {D : Addr} {o : Obj}, (D, o) ∈ (lO, W.listOf (List.toArray (Mine.refsOf (pre ++ [e]))) c) :: (e.objs w.params ++ flatE w.params pre) → ∀ p ∈ own, p.1 ≠ D := by
      intro D o hm p hp
      rcases hown p hp with h | h
      · rw [h]; exact Ne.symm (hoff (D, o) hm)
      · rw [h]; exact ne_base holS (hN3 (D, o) (List.mem_append_left _ hm)).2.2
    have hmem : ∀ p ∈ e.objs w.params, p ∈ (lO, W.listOf (List.toArray (Mine.refsOf (pre ++ [e]))) c) :: (e.objs w.params ++ flatE w.params pre) := fun p hp => .tail _ (List.mem_append_left _ hp)
    have hN4 : News s1.heap s1.heap.objs.size h3 ((lO, W.listOf (List.toArray (Mine.refsOf (pre ++ [e]))) c) :: (e.rl, W.listOf e.rs.toArray e.m) :: (e.ua, W.listOf e.vs.toArray e.n) :: (e.a, instObj 59 e.dx) :: (e.dx, entD w.params e.t1 e.t2 e.t3 e.t4 e.ua e.rl e.de e.ra) :: (flatE w.params pre ++ own)) := by
      intro p hp
      apply hN3
      simp only [En.objs, List.cons_append, List.nil_append]
      exact hp
    have hLl : (Mine.refsOf (pre ++ [e])).length ≤ 5 := by simp; omega
    have hI5 : lO ≠ I ∧ e.rl ≠ I ∧ e.ua ≠ I ∧ e.a ≠ I ∧ e.dx ≠ I := ⟨hoff _ (.head _), hoff _ (.tail _ (.head _)), hoff _ (.tail _ (.tail _ (.head _))), hoff _ (.tail _ (.tail _ (.tail _ (.head _)))), hoff _ (.tail _ (.tail _ (.tail _ (.tail _ (.head _)))))⟩
    have hIf : ∀ p ∈ flatE w.params pre, p.1 ≠ I := fun p hp => hoff p (.tail _ (List.mem_append_right _ hp))
    clear hN3
    try dsimp only
    walk_at "my few"
    · rename Fr _ _ _ _ => hF5
      rename News _ _ _ _ => hN5
      refine len_list ⟨_, (hN5 _ (.head _)).1, rfl, _, rfl⟩ (by simp; omega) ?_
      try dsimp only
      walk_at "my few"
      · rename Heap => h5
        refine entry_spec (((C0 _).keep (Fr.keep hF5)).le (by decide)) fun h1' tk1' a' dx' ua' rl' u1 u2 u3 u4 st1' g1 g2 g3 g4 hE1' p1 p2 p3 => ?_
        have hF6 := kept_fr hF5 st1'
        have hN6 := news_ent hF5 hN5 st1' g1 g2 g3 g4 hE1'
        try dsimp only
        walk_at "my few"
        refine app_list hF6 (fun p hp => hN6 p (mem_mid4 hp)) ?_ (by omega) fun h7 n7 hF7 hN7 => ?_
        · intro p hp
          simp only [List.mem_cons, List.mem_append] at hp
          have z := (hN5 _ (.head _)).1
          rcases hp with rfl | rfl | rfl | rfl | rfl | rfl | rfl | rfl | hp | hp
          · exact Ne.symm (ne_base z g4)
          · exact Ne.symm (ne_base z g3)
          · exact Ne.symm (ne_base z g1)
          · exact Ne.symm (ne_base z g2)
          · exact Ne.symm nd.1.1
          · exact Ne.symm nd.1.2.1
          · exact Ne.symm nd.1.2.2.1
          · exact Ne.symm nd.1.2.2.2
          · exact (off p hp).1
          · exact ownNe (.head _) p hp
        try dsimp only
        walk_at "my few"
        have q1 : @LT.lt Nat _ dx' a' := p1
        have q2 : @LT.lt Nat _ a' ua' := p2
        have q3 : @LT.lt Nat _ ua' rl' := p3
        have zO := (hN5 _ (.head _)).1
        have zI := (hN5 (I, oI) (.tail _ (.tail _ (.tail _ (.tail _ (.tail _ (List.mem_append_right _ hIown))))))).1
        have hpl4 : pre.length + 1 ≤ 4 := by
          have h5 : (((Mine.refsOf (pre ++ [e])).toArray.size : Nat) : Int) < 5 := by assumption
          simp at h5
          omega
        refine turn_new (e2 := ⟨a', dx', ua', rl', [], [], [], .none, .none, u1, u2, u3, u4, 0, 0⟩) hF7 hN7 hos hpl4 ⟨?_, fun p hp => ?_⟩ hok ⟨.nil, ⟨[], .nil⟩, Nat.zero_le _, Nat.zero_le _, .inl rfl, .inl rfl⟩ ⟨hI5.1, Ne.symm (ne_base zI g4), Ne.symm (ne_base zI g3), Ne.symm (ne_base zI g1), Ne.symm (ne_base zI g2)⟩ (fun p hp => ?_) (fun y hy => by
          simp only [List.mem_cons, List.not_mem_nil, or_false, not_or] at hy
          simp only [hy, if_false])
        · have y1 : @Ne Nat lO rl' := ne_base zO g4
          have y2 : @Ne Nat lO ua' := ne_base zO g3
          have y3 : @Ne Nat lO a' := ne_base zO g1
          have y4 : @Ne Nat lO dx' := ne_base zO g2
          simp only [List.nodup_cons, List.mem_cons, List.not_mem_nil, or_false, not_or, not_false_eq_true, List.nodup_nil, and_true]
          omega
        · have hz : p ∈ e.objs w.params ∨ p ∈ flatE w.params pre := by
            simp only [flatE, List.flatMap_append, List.flatMap_cons, List.flatMap_nil, List.append_nil, List.mem_append] at hp ⊢
            exact hp.symm
          have zp : h5.get? p.1 = some p.2 := by
            rcases hz with hz | hz
            · simp only [En.objs, List.mem_cons, List.not_mem_nil, or_false] at hz
              rcases hz with rfl | rfl | rfl | rfl
              · exact (hN5 _ (.tail _ (.head _))).1
              · exact (hN5 _ (.tail _ (.tail _ (.head _)))).1
              · exact (hN5 _ (.tail _ (.tail _ (.tail _ (.head _))))).1
              · exact (hN5 _ (.tail _ (.tail _ (.tail _ (.tail _ (.head _)))))).1
            · exact (hN5 _ (.tail _ (.tail _ (.tail _ (.tail _ (.tail _ (List.mem_append_left _ hz))))))).1
          simp only [List.mem_cons, List.not_mem_nil, or_false, not_or]
          refine ⟨?_, ne_base zp g4, ne_base zp g3, ne_base zp g1, ne_base zp g2⟩
          rcases hz with hz | hz
          · simp only [En.objs, List.mem_cons, List.not_mem_nil, or_false] at hz
            rcases hz with rfl | rfl | rfl | rfl
            · exact Ne.symm nd.1.1
            · exact Ne.symm nd.1.2.1
            · exact Ne.symm nd.1.2.2.1
            · exact Ne.symm nd.1.2.2.2
          · exact (off p hz).1
        · simp only [flatE, List.flatMap_append, List.flatMap_cons, List.flatMap_nil, List.append_nil, List.mem_append] at hp
          rcases hp with hp | hp
          · exact hIf p hp
          · simp only [En.objs, List.mem_cons, List.not_mem_nil, or_false] at hp
            rcases hp with rfl | rfl | rfl | rfl
            · exact hI5.2.1
            · exact hI5.2.2.1
            · exact hI5.2.2.2.1
            · exact hI5.2.2.2.2
      · refine item_list_neg ⟨_, (hN5 _ (.head _)).1, rfl, _, rfl⟩ (by decide) (by decide) (by simp; omega) ones_last ?_
        try dsimp only
        walk_at "my few"
        refine get_ua hF5 KX (hN5 _ (.tail _ (.tail _ (.tail _ (.head _))))).1 (hN5 _ (.tail _ (.tail _ (.tail _ (.tail _ (.head _)))))).1 ?_
        try dsimp only
        walk_at "my few"
        rename Fr _ _ _ _ => hF6
        rename News _ _ _ _ => hN6
        obtain ⟨vx, hvx, hgx⟩ := five_at (v0 := .str _ _) (v1 := .str _ _) (v2 := .str _ _) (v3 := .str _ _) (v4 := .str _ _) (q.fdiv 4)
        refine item_list (v := vx) ⟨_, (hN6 _ (.head _)).1, rfl, _, rfl⟩ (fmod_fit _ (by decide) (by decide)).1 (fmod_fit _ (by decide) (by decide)).2 hgx ?_
        obtain ⟨vX, vt, rfl⟩ : ∃ a b, vx = Value.str a b := by rcases hvx with h | h | h | h | h <;> exact ⟨_, _, h⟩
        clear hvx hgx
        try dsimp only
        walk_at "my few"
        refine app_list hF6 (fun p hp => hN6 p (.tail _ (mem_rot3 hp))) ?_ (by have := (hok e (by simp)).vl; omega) fun h7 n7 hF7 hN7 => ?_
        · intro p hp
          simp only [List.mem_cons, List.mem_append] at hp
          rcases hp with rfl | rfl | rfl | rfl | hp | hp
          · exact nd.1.2.1
          · exact nd.2.1.1
          · exact Ne.symm nd.2.2.1.1
          · exact Ne.symm nd.2.2.1.2
          · exact (off p hp).2.2.1
          · exact ownNe (hmem _ (.tail _ (.head _))) p hp
        try dsimp only
        walk_at "my few"
        exact turn_vs hF7 hN7 hos hpl hap hok hI5 hIf (fun y hy => by
          simp only [List.mem_cons, List.not_mem_nil, or_false, not_or] at hy
          simp only [hy, if_false])
    · rename Fr _ _ _ _ => hF5
      rename News _ _ _ _ => hN5
      refine item_list_neg ⟨_, (hN5 _ (.head _)).1, rfl, _, rfl⟩ (by decide) (by decide) (by simp; omega) ones_last ?_
      try dsimp only
      walk_at "my few"
      refine get_ua hF5 KX (hN5 _ (.tail _ (.tail _ (.tail _ (.head _))))).1 (hN5 _ (.tail _ (.tail _ (.tail _ (.tail _ (.head _)))))).1 ?_
      try dsimp only
      walk_at "my few"
      rename Fr _ _ _ _ => hF6
      rename News _ _ _ _ => hN6
      obtain ⟨vx, hvx, hgx⟩ := five_at (v0 := .str _ _) (v1 := .str _ _) (v2 := .str _ _) (v3 := .str _ _) (v4 := .str _ _) (q.fdiv 4)
      refine item_list (v := vx) ⟨_, (hN6 _ (.head _)).1, rfl, _, rfl⟩ (fmod_fit _ (by decide) (by decide)).1 (fmod_fit _ (by decide) (by decide)).2 hgx ?_
      obtain ⟨vX, vt, rfl⟩ : ∃ a b, vx = Value.str a b := by rcases hvx with h | h | h | h | h <;> exact ⟨_, _, h⟩
      clear hvx hgx
      try dsimp only
      walk_at "my few"
      refine app_list hF6 (fun p hp => hN6 p (.tail _ (mem_rot3 hp))) ?_ (by have := (hok e (by simp)).vl; omega) fun h7 n7 hF7 hN7 => ?_
      · intro p hp
        simp only [List.mem_cons, List.mem_append] at hp
        rcases hp with rfl | rfl | rfl | rfl | hp | hp
        · exact nd.1.2.1
        · exact nd.2.1.1
        · exact Ne.symm nd.2.2.1.1
        · exact Ne.symm nd.2.2.1.2
        · exact (off p hp).2.2.1
        · exact ownNe (hmem _ (.tail _ (.head _))) p hp
      try dsimp only
      walk_at "my few"
      exact turn_vs hF7 hN7 hos hpl hap hok hI5 hIf (fun y hy => by
        simp only [List.mem_cons, List.not_mem_nil, or_false, not_or] at hy
        simp only [hy, if_false])
    · rename Fr _ _ _ _ => hF5
      rename News _ _ _ _ => hN5
      refine item_list_neg ⟨_, (hN5 _ (.head _)).1, rfl, _, rfl⟩ (by decide) (by decide) (by simp; omega) ones_last ?_
      try dsimp only
      walk_at "my few"
      refine get_rl hF5 KX (hN5 _ (.tail _ (.tail _ (.tail _ (.head _))))).1 (hN5 _ (.tail _ (.tail _ (.tail _ (.tail _ (.head _)))))).1 ?_
      try dsimp only
      walk_at "my few"
      refine app_list hF5 (fun p hp => hN5 p (mem_rot hp)) ?_ (by have := (hok e (by simp)).rl; omega) fun h6 n6 hF6 hN6 => ?_
      · intro p hp
        simp only [List.mem_cons, List.mem_append] at hp
        rcases hp with rfl | rfl | rfl | rfl | hp | hp
        · exact nd.1.1
        · exact Ne.symm nd.2.1.1
        · exact Ne.symm nd.2.1.2.1
        · exact Ne.symm nd.2.1.2.2
        · exact (off p hp).2.1
        · exact ownNe (hmem _ (.head _)) p hp
      try dsimp only
      walk_at "my few"
      exact turn_rs hF6 hN6 hos hpl hap hok hI5 hIf (fun y hy => by
        simp only [List.mem_cons, List.not_mem_nil, or_false, not_or] at hy
        simp only [hy, if_false])
    · rename Fr _ _ _ _ => hF5
      rename News _ _ _ _ => hN5
      obtain ⟨vx, hvx, hgx⟩ := three_at (v0 := .int 0 _) (v1 := .int 5 _) (v2 := .none) (q.fdiv 4)
      refine item_list (v := vx) ⟨_, (hN5 _ (.head _)).1, rfl, _, rfl⟩ (fmod_fit _ (by decide) (by decide)).1 (fmod_fit _ (by decide) (by decide)).2 hgx ?_
      have hvk : okV vx := by rcases hvx with h | h | h <;> subst h <;> first | exact .inl rfl | exact .inr ⟨_, _, rfl⟩
      clear hvx hgx
      try dsimp only
      walk_at "my few"
      refine item_list_neg ⟨_, (hN5 _ (.tail _ (.head _))).1, rfl, _, rfl⟩ (by decide) (by decide) (by simp; omega) ones_last ?_
      try dsimp only
      walk_at "my few"
      refine set_delay hF5 KX (fun p hp => hN5 p (.tail _ (mem_rot5 hp))) ?_ fun h6 u6 hF6 hN6 => ?_
      · intro p hp
        simp only [List.mem_cons, List.mem_append] at hp
        rcases hp with rfl | rfl | rfl | rfl | hp | hp
        · exact nd.2.2.2.1
        · exact nd.1.2.2.2
        · exact nd.2.1.2.2
        · exact nd.2.2.1.2
        · exact (off p hp).2.2.2.2
        · exact ownNe (hmem _ (.tail _ (.tail _ (.tail _ (.head _))))) p hp
      try dsimp only
      walk_at "my few"
      rename Fr _ _ _ _ => hF7
      rename News _ _ _ _ => hN7
      obtain ⟨wx, hwx, hgw⟩ := three_at (v0 := .int 7 _) (v1 := .none) (v2 := .int 0 _) ((q.fdiv 4).fdiv 3)
      refine item_list (v := wx) ⟨_, (hN7 _ (.head _)).1, rfl, _, rfl⟩ (fmod_fit _ (by decide) (by decide)).1 (fmod_fit _ (by decide) (by decide)).2 hgw ?_
      have hwk : okV wx := by rcases hwx with h | h | h <;> subst h <;> first | exact .inl rfl | exact .inr ⟨_, _, rfl⟩
      clear hwx hgw
      try dsimp only
      walk_at "my few"
      refine item_list_neg ⟨_, (hN7 _ (.tail _ (.tail _ (.tail _ (.head _))))).1, rfl, _, rfl⟩ (by decide) (by decide) (by simp; omega) ones_last ?_
      try dsimp only
      walk_at "my few"
      refine set_rate hF7 KX (fun p hp => hN7 p (.tail _ hp)) ?_ fun h8 u8 hF8 hN8 => ?_
      · intro p hp
        simp only [List.mem_cons, List.mem_append] at hp
        rcases hp with rfl | rfl | rfl | rfl | hp | hp
        · exact nd.2.2.2.1
        · exact nd.1.2.2.2
        · exact nd.2.1.2.2
        · exact nd.2.2.1.2
        · exact (off p hp).2.2.2.2
        · exact ownNe (hmem _ (.tail _ (.tail _ (.tail _ (.head _))))) p hp
      try dsimp only
      walk_at "my few"
      exact turn_dr hvk hwk hF8 hN8 hos hpl hap hok hI5 hIf (fun y hy => by
        simp only [List.mem_cons, List.not_mem_nil, or_false, not_or] at hy
        simp only [hy, if_false])
  · rintro u news₁ h3 tk3 ⟨pre, e, c, rfl, hpl, hap, hok⟩ hF3 hN3
    simp only [overs] at hF3
    clear hF2 hN2
    try dsimp only
    walk_at "my few"
    refine asg_each (h₀ := s1.heap) (BooksW (pre ++ [e])) rfl rfl rfl ?_ rfl ?_ rfl rfl rfl ?_
    rotate_left 2
    · walk_at "my few"
      refine ⟨lO, Mine.refsOf (pre ++ [e]), _, _, rfl, ⟨_, (hN3 _ (.head _)).1, rfl, _, rfl⟩, by simp; omega, hF3, hN3, books_zero _, ?_, ?_⟩
      · intro C i v s₃ m₃ E' ys objs hv hn₃ hx₃ hk₃ ho₃ hW₃
        have hk₄ : ∀ b o, h3.get? b = some o → s₃.heap.get? b = some o := fun b o e => hk₃ b o (List.not_mem_nil) e
        walk_at "my few"
        obtain ⟨e1, he1, rfl⟩ := refs_at hv
        have hm1 := List.mem_of_getElem? he1
        have ok1 := hok e1 hm1
        rename Fr _ _ _ _ => hF4
        rename News _ _ _ _ => hN4
        have hen := ent_of (P := w.params) (h := s₃.heap) (e := e1) fun p hp => (hN4 p (objs_mem hm1 p hp)).1
        refine parts_spec (((C0 _).keep (Fr.keep hF4)).le (by decide)) hen (by have := ok1.vl; have hz := hI.length; simp at this; omega) (by have := ok1.rl; have hz := hI.length; simp at this; omega) (okV_handed ok1.de) (okV_handed ok1.ra) fun h' tk b A R k n m st g1 g2 g3 hB o1 o2 => ?_
        refine ⟨⟨h', tk, rfl, st⟩, bkObjs ⟨b, A, R, e1.vs, e1.rs, e1.ss, e1.de, e1.ra, k, n, m⟩, fun p hp => ⟨?_, book_objs (d := ⟨b, A, R, e1.vs, e1.rs, e1.ss, e1.de, e1.ra, k, n, m⟩) hB p hp⟩, books_step (d := ⟨b, A, R, e1.vs, e1.rs, e1.ss, e1.de, e1.ra, k, n, m⟩) hW₃ he1 ⟨rfl, rfl, rfl, rfl, rfl⟩⟩
        simp only [bkObjs, List.mem_cons, List.not_mem_nil, or_false] at hp
        rcases hp with rfl | rfl | rfl
        · exact g1
        · exact g2
        · exact g3
      · rintro lB h4 tk4 ysB objsB cB hF4 hN4 hnB hnewB hB0 ⟨bs, hbl, rfl, hbm, hbo⟩
        clear hF3 hN3
        try dsimp only
        walk_at "my few"
        refine asg_each (h₀ := s1.heap) (TableW (pre ++ [e])) rfl rfl rfl ?_ rfl ?_ rfl rfl rfl ?_
        rotate_left 2
        · walk_at "my few"
          refine ⟨lO, Mine.refsOf (pre ++ [e]), _, _, rfl, ⟨_, (hN4 _ (.tail _ (List.mem_append_right _ (.head _)))).1, rfl, _, rfl⟩, by simp; omega, hF4, hN4, table_zero _, ?_, ?_⟩
          · intro C i v s₃ m₃ E' ys objs hv hn₃ hx₃ hk₃ ho₃ hW₃
            have hk₄ : ∀ b o, h4.get? b = some o → s₃.heap.get? b = some o := fun b o e => hk₃ b o (List.not_mem_nil) e
            walk_at "my own"
            refine wpAny_newList ?_
            try dsimp only
            walk_at "my own"
            refine wpAny_newList ?_
            try dsimp only
            obtain ⟨e1, he1, rfl⟩ := refs_at hv
            obtain ⟨o1, ho1⟩ : ∃ o1 : Obj, o1 = { cls := .type "list", data := .seq [Value.ref e1.a].toArray } := ⟨_, rfl⟩
            have hs2 : (s₃.heap.push o1).objs.size = s₃.heap.objs.size + 1 := by simp [Heap.push]
            have hf1 : o1.isFreed = false := by rw [ho1]; rfl
            rw [← ho1]
            refine ⟨⟨_, _, rfl, fun b o eb => Heap.get?_push_of_some _ (Heap.get?_push_of_some _ eb)⟩, celObjs e1 ⟨(s₃.heap.push o1).objs.size, s₃.heap.objs.size⟩, fun p hp => ?_, table_step (d := ⟨(s₃.heap.push o1).objs.size, s₃.heap.objs.size⟩) hW₃ he1 (fun p hp => ?_) (fun p hp => Nat.ne_of_lt (Heap.lt_size (ho₃ p hp))) ?_⟩
            · simp only [celObjs, List.mem_cons, List.not_mem_nil, or_false] at hp
              rcases hp with rfl | rfl
              · refine ⟨Heap.get?_none_of_le (Nat.le_of_lt (hs2 ▸ Nat.lt_succ_self _)), ?_⟩
                exact Heap.get?_push_size (h := s₃.heap.push o1) (o := W.listOf #[.ref s₃.heap.objs.size] 0) rfl
              · refine ⟨Heap.get?_none_of_le (Nat.le_refl _), ?_⟩
                exact Heap.get?_push_of_some _ ((Heap.get?_push_size s₃.heap hf1).trans (congrArg some ho1))
            · exact Nat.ne_of_lt (Nat.lt_trans (Heap.lt_size (ho₃ p hp)) (hs2 ▸ Nat.lt_succ_self _))
            · exact Ne.symm (Nat.ne_of_lt (hs2 ▸ Nat.lt_succ_self _))
          · rintro lT h5 tk5 ysT objsT cT hF5 hN5 hnT hnewT hT0 ⟨cs, hcl, rfl, hcnd, hco⟩
            have hm4 := fun p hp => (hN4 p hp).1
            clear hF4 hN4
            try dsimp only
            walk_at "my few"
            refine' For_invV s1.heap ?q1 ?q2 ?_ ?q3 ?q4
            case q1 => exact rfl
            case q2 => exact rfl
            case q3 => intro _; rfl
            case q4 => passes_own
            walk_at "my few"
            refine len_list ⟨_, (hN5 _ (.tail _ (List.mem_append_right _ (.tail _ (List.mem_append_right _ (.head _)))))).1, rfl, _, rfl⟩ (by simp; omega) ?_
            try dsimp only
            walk_at "my few"
            walk1
            try dsimp only
            walk_at "my few"
            rename IsRange _ _ _ _ _ _ _ _ => hR1
            rename Fr _ _ _ _ => hF6
            rename News _ _ _ _ => hN6
            (try clear hN5); (try clear hF5)
            have h63 : vsS.toArray.size ≤ 63 := by simp; omega
            have hps : 0 < (pre ++ [e]).length := by simp
            have hos : ∀ e1 ∈ pre ++ [e], ∀ p ∈ e1.objs w.params, p ∈ (lB, W.listOf (List.toArray (bs.map fun d => Value.ref d.b)) cB) :: (objsB ++ (lO, W.listOf (List.toArray (Mine.refsOf (pre ++ [e]))) c) :: (e.objs w.params ++ flatE w.params pre)) := fun e1 h1 p hp => .tail _ (List.mem_append_right _ (objs_mem h1 p hp))
            have hbm2 : ∀ d ∈ bs, ∀ p ∈ bkObjs d, p ∈ (lB, W.listOf (List.toArray (bs.map fun d => Value.ref d.b)) cB) :: (objsB ++ (lO, W.listOf (List.toArray (Mine.refsOf (pre ++ [e]))) c) :: (e.objs w.params ++ flatE w.params pre)) := fun d hd p hp => .tail _ (List.mem_append_left _ (hbm d hd p hp))
            have hO2 : (lO, W.listOf (List.toArray (Mine.refsOf (pre ++ [e]))) c) ∈ (lB, W.listOf (List.toArray (bs.map fun d => Value.ref d.b)) cB) :: (objsB ++ (lO, W.listOf (List.toArray (Mine.refsOf (pre ++ [e]))) c) :: (e.objs w.params ++ flatE w.params pre)) := .tail _ (List.mem_append_right _ (.head _))
            have hB2 : (lB, W.listOf (List.toArray (bs.map fun d => Value.ref d.b)) cB) ∈ (lB, W.listOf (List.toArray (bs.map fun d => Value.ref d.b)) cB) :: (objsB ++ (lO, W.listOf (List.toArray (Mine.refsOf (pre ++ [e]))) c) :: (e.objs w.params ++ flatE w.params pre)) := .head _
            generalize (lB, W.listOf (List.toArray (bs.map fun d => Value.ref d.b)) cB) :: (objsB ++ (lO, W.listOf (List.toArray (Mine.refsOf (pre ++ [e]))) c) :: (e.objs w.params ++ flatE w.params pre)) = more at hN6 hos hbm2 hO2 hB2 hm4 hnT
            have hon : (pre ++ [e]).length ≤ 5 := by simp; omega
            generalize pre ++ [e] = os at hN6 hR1 hos hbm2 hO2 hok hbl hbo hcl hco hon hps
            simp only [List.length_map] at hbl hcl
            obtain ⟨ra, inj, hTv, news0, hT0W, hT0m⟩ := tab_start (P := w.params) (oT := W.listOf (List.toArray (cs.map fun d => Value.ref d.r)) cT) hcl hbl hcnd hco hnT hnewT hm4 hos (fun e1 h1 => (hok e1 h1).le h63) hbo
            have hN7 : News s1.heap s1.heap.objs.size _ news0 := fun p hp => hN6 p (hT0m p hp)
            rw [hTv] at hT0W
            have hbk := books_ok hbl (fun e1 h1 => (hok e1 h1).le h63) hbo
            clear hnT hnewT hm4 hcnd hco hN6 hT0m hbm hTv hcl
            refine iter_rangeK2 (n := os.length - 1) [Str.ofString "start", Str.ofString "row", Str.ofString "due", Str.ofString "cut", Str.ofString "left", Str.ofString "right", Str.ofString "one"] (fun i news => TabW w.params os.length ra bs ((lT, W.listOf (List.toArray ((List.range os.length).map fun j => Value.ref (ra j))) cT) :: more) [] (fun j => min (i + 1) (os.length - j)) news) rfl hR1 (range_small (by decide) (by decide) (by omega) (by simp; omega)) (by rw [rangeSize_nat]; simp) hF6 hN7 (by simpa using hT0W) ?_ ?_
            · rintro i tk7' u7 news₁ h7 tk7 I own hi ⟨T, cap, objs, rfl, hA, hcnt⟩ hoff hown ⟨oI, hoI⟩ hLI hbI hF7 hN7'
              simp only [overs] at hF7
              have hA1 := tab_in (oI := oI) hA hoff hown
              have hN8 : News s1.heap s1.heap.objs.size h7 (rowsOf ra T cap os.length ++ (objs ++ ((I, oI) :: own))) := fun p hp => by
                rcases List.mem_append.mp hp with hp | hp
                · exact hN7' p (List.mem_append_left _ (List.mem_append_left _ hp))
                · rcases List.mem_append.mp hp with hp | hp
                  · exact hN7' p (List.mem_append_left _ (List.mem_append_right _ (List.mem_append_left _ hp)))
                  · rcases List.mem_cons.mp hp with rfl | hp
                    · exact ⟨hoI, Ne.symm hLI, hbI⟩
                    · exact hN7' p (List.mem_append_right _ hp)
              clear hN7' hN7 hF6
              try dsimp only
              walk_at "my few"
              refine' For_invV s1.heap ?q1 ?q2 ?_ ?q3 ?q4
              case q1 => exact rfl
              case q2 => exact rfl
              case q3 => intro _; rfl
              case q4 => passes_own
              walk_at "my few"
              refine len_list ⟨_, (hN8 _ (List.mem_append_right _ (List.mem_append_left _ (hA1.base _ (.tail _ hO2))))).1, rfl, _, rfl⟩ (by simp; omega) ?_
              try dsimp only
              walk_at "my few"
              walk1
              try dsimp only
              walk_at "my few"
              rename IsRange _ _ _ _ _ _ _ _ => hR2
              rename Fr _ _ _ _ => hF9
              rename News _ _ _ _ => hN9
              clear hA hoff hown
              refine iter_rangeK2 (n := os.length - (i + 1)) [Str.ofString "row", Str.ofString "due", Str.ofString "cut", Str.ofString "left", Str.ofString "right", Str.ofString "one"] (fun i1 news => TabW w.params os.length ra bs ((lT, W.listOf (List.toArray ((List.range os.length).map fun j => Value.ref (ra j))) cT) :: more) ((I, oI) :: own) (fun j => if j < i1 then min (i + 2) (os.length - j) else min (i + 1) (os.length - j)) news) rfl hR2 (range_small (by decide) (by decide) (by simp; omega) (by simp; omega)) (by rw [rangeSize_nat]; simp; omega) hF9 hN9 ⟨T, cap, objs, rfl, hA1, fun j hj => by rw [hcnt j hj]; simp⟩ ?_ ?_
              · rintro i1 tk9' u8 news₁ h8 tk8 I2 own2 hi1 ⟨T2, cap2, objs2, rfl, hA2, hcnt2⟩ hoff2 hown2 ⟨oI2, hoI2⟩ hLI2 hbI2 hF8 hN8'
                simp only [overs] at hF8
                clear hA1 hcnt hF9 hN9
                obtain ⟨rest2, hrest2⟩ : ∃ r, r = (I2, oI2) :: (own2 ++ (rowsOf ra T2 cap2 os.length ++ (objs2 ++ ((I, oI) :: own)))) := ⟨_, rfl⟩
                have hN10 : News s1.heap s1.heap.objs.size h8 rest2 := fun p hp => by
                  rw [hrest2] at hp
                  rcases List.mem_cons.mp hp with rfl | hp
                  · exact ⟨hoI2, Ne.symm hLI2, hbI2⟩
                  · rcases List.mem_append.mp hp with hp | hp
                    · exact hN8' p (List.mem_append_right _ hp)
                    · exact hN8' p (List.mem_append_left _ hp)
                (try clear hN8')
                have mI2 : (I2, oI2) ∈ rest2 := hrest2 ▸ .head _
                have mown2 : ∀ p ∈ own2, p ∈ rest2 := fun p hp => hrest2 ▸ .tail _ (List.mem_append_left _ hp)
                have mtab : ∀ p ∈ rowsOf ra T2 cap2 os.length ++ (objs2 ++ ((I, oI) :: own)), p ∈ rest2 := fun p hp => hrest2 ▸ .tail _ (List.mem_append_right _ hp)
                have mrow : ∀ {j : Nat}, j < os.length → (ra j, W.listOf (List.toArray (rowVals (T2 j))) (cap2 j)) ∈ rest2 := fun hj => mtab _ (List.mem_append_left _ (row_at hj))
                have mobj : ∀ p ∈ objs2, p ∈ rest2 := fun p hp => mtab p (List.mem_append_right _ (List.mem_append_left _ hp))
                have mmore : ∀ p ∈ more, p ∈ rest2 := fun p hp => mobj p (hA2.base _ (.tail _ hp))
                have mtbl := mobj _ (hA2.base _ (.head _))
                try dsimp only
                walk_at "my own"
                refine newList_N hF8 hN10 fun h9 hF9 hN9 => ?_
                have hRne : ∀ p ∈ rest2, p.1 ≠ h8.objs.size := fun p hp => Nat.ne_of_lt (Heap.lt_size (hN10 p hp).1)
                try dsimp only at hN9
                try dsimp only
                generalize h8.objs.size = lR at hN9 hRne ⊢
                (try clear hF8); (try clear hN10)
                walk_at "my own"
                rename Fr _ _ _ _ => hF10
                rename News _ _ _ _ => hN10
                have hib : i1 + (i + 1) < bs.length := by omega
                refine kmk_slice (s := ⟨_, _, _, _, _⟩) hF10 hN10 (l := lB) (its := List.toArray (bs.map fun d => Value.ref d.b)) ⟨_, (hN10 _ (.tail _ (mmore _ hB2))).1, rfl, _, rfl⟩ (.int _ _) (.int _ _) (fun D h11 hF11 hN11 lD => ?_) (by with_unfolding_all rfl) (by intro _; with_unfolding_all rfl) (by rw [sizeLine_eq]; simp; omega)
                rw [slice_refs (by omega) (by omega), ← List.map_drop, ← List.map_take, show (0 + (i1 : Int)).toNat = i1 by omega, show (0 + (i1 : Int) + (1 + (i : Int)) + 1).toNat - i1 = (i + 1) + 1 by omega] at hN11
                obtain ⟨d0, dr, hst⟩ := List.exists_cons_of_ne_nil (stretch_ne (c := i + 1) hib)
                have hst2 : (bs.drop i1).take (i + 1 + 1) = d0 :: dr := hst
                rw [hst2] at hN11
                try dsimp only
                walk_at "my own"
                have hdm : ∀ d ∈ d0 :: dr, d ∈ bs := fun d hd => stretch_mem (j := i1) (c := i + 1) (by rw [hst]; exact hd)
                refine due_spec (((C0 _).keep (Fr.keep hF11)).le (by decide)) (lb := D) (d0 := d0) (bs := dr) ⟨_, (hN11 _ (.head _)).1, rfl, _, rfl⟩ (fun d hd => ⟨objs_book fun p hp => (hN11 p (.tail _ (.tail _ (mmore _ (hbm2 d (hdm d hd) p hp))))).1, (hbk d (hdm d hd)).ss⟩) (by rw [← hst, stretch_len hib]; omega) (fun d hd => ⟨Nat.le_trans (hbk d (hdm d hd)).vl (by decide), Nat.le_trans (hbk d (hdm d hd)).rl (by decide)⟩) (fun d hd => ⟨okV_plain (hbk d (hdm d hd)).de, okV_plain (hbk d (hdm d hd)).ra⟩) fun h12 tk12 bD AD RD vsD kD nD mD st12 g1 g2 g3 hBD hssD => ?_
                have hF12 := kept_fr hF11 st12
                obtain ⟨rest3, hrest3⟩ : ∃ r, r = (bD, W.listOf #[.ref AD, .ref RD, lastOf (·.de) (d0 :: dr), lastOf (·.ra) (d0 :: dr)] kD) :: (AD, W.listOf vsD.toArray nD) :: (RD, W.listOf (List.toArray ((d0 :: dr).flatMap fun d => d.rs)) mD) :: rest2 := ⟨_, rfl⟩
                have hN12 : News s1.heap s1.heap.objs.size h12 ((lR, W.listOf (List.toArray (Mine.refsOf [])) 0) :: (flatE w.params [] ++ rest3)) := by
                  have hN11' := kept_news hN11 st12
                  refine news_push (hN11' _ (.tail _ (.head _))) ?_
                  show News _ _ _ rest3
                  rw [hrest3]
                  exact news_push (news_fresh hF11 g1 hBD.at_) (news_push (news_fresh hF11 g2 hBD.ags) (news_push (news_fresh hF11 g3 hBD.rus) fun p hp => hN11' p (.tail _ (.tail _ hp))))
                have zR := (hN11 _ (.tail _ (.head _))).1
                have hRne3 : ∀ p ∈ rest3, p.1 ≠ lR := fun p hp => by
                  rw [hrest3] at hp
                  rcases List.mem_cons.mp hp with rfl | hp
                  · exact Ne.symm (ne_base zR g1)
                  · rcases List.mem_cons.mp hp with rfl | hp
                    · exact Ne.symm (ne_base zR g2)
                    · rcases List.mem_cons.mp hp with rfl | hp
                      · exact Ne.symm (ne_base zR g3)
                      · exact hRne p hp
                have m23 : ∀ p ∈ rest2, p ∈ rest3 := fun p hp => hrest3 ▸ .tail _ (.tail _ (.tail _ hp))
                have mB1 : (bD, W.listOf #[.ref AD, .ref RD, lastOf (·.de) (d0 :: dr), lastOf (·.ra) (d0 :: dr)] kD) ∈ rest3 := hrest3 ▸ .head _
                have mB2 : (AD, W.listOf vsD.toArray nD) ∈ rest3 := hrest3 ▸ .tail _ (.head _)
                have mB3 : (RD, W.listOf (List.toArray ((d0 :: dr).flatMap fun d => d.rs)) mD) ∈ rest3 := hrest3 ▸ .tail _ (.tail _ (.head _))
                clear hrest3 hrest2 hF11 hN11 hF10 hN10 hF9 hN9 hBD g1 g2 g3 st12 zR lD hRne
                try dsimp only
                walk_at "my own"
                rename Fr _ _ _ _ => hF13
                rename News _ _ _ _ => hN13
                refine' For_invV s1.heap ?q1 ?q2 ?_ ?q3 ?q4
                case q1 => exact rfl
                case q2 => exact rfl
                case q3 => intro _; rfl
                case q4 => passes_own
                walk_at "my own"
                refine range_one hF13 hN13 fun h14 tk14 r14 ta tb tc hR3 hF14 hN14 => ?_
                try dsimp only
                refine iter_rangeK2 (n := i + 1) [Str.ofString "left", Str.ofString "right", Str.ofString "one"] (CutW w.params lR (stretch bs i1 (i + 1)) rest3) rfl hR3 (range_small (by decide) (by decide) (by omega) (by omega)) (by rw [rangeSize_nat]; omega) hF14 hN14 ⟨[], 0, rfl, rfl, (fun _ h => nomatch h), (fun _ h => nomatch h)⟩ ?_ ?_
                · rintro ci ct u9 news₁ h13 tk13 I3 own3 hci ⟨es, nR, rfl, hes, heD, heA⟩ hoff3 hown3 ⟨oI3, hoI3⟩ hLI3 hbI3 hF15 hN15
                  simp only [overs] at hF15
                  clear hF13 hN13 hF14 hN14 hR3
                  obtain ⟨rest4, hrest4⟩ : ∃ r, r = flatE w.params es ++ rest3 ++ ((I3, oI3) :: own3) := ⟨_, rfl⟩
                  have hN16 : News s1.heap s1.heap.objs.size h13 ((lR, W.listOf (List.toArray (Mine.refsOf es)) nR) :: rest4) := by
                    refine news_push (hN15 _ (List.mem_append_left _ (.head _))) fun p hp => ?_
                    rw [hrest4] at hp
                    rcases List.mem_append.mp hp with hp | hp
                    · exact hN15 p (List.mem_append_left _ (.tail _ hp))
                    · rcases List.mem_cons.mp hp with rfl | hp
                      · exact ⟨hoI3, Ne.symm hLI3, hbI3⟩
                      · exact hN15 p (List.mem_append_right _ hp)
                  (try clear hN15)
                  have m34 : ∀ p ∈ flatE w.params es ++ rest3, p ∈ rest4 := fun p hp => hrest4 ▸ List.mem_append_left _ hp
                  have mI3 : (I3, oI3) ∈ rest4 := hrest4 ▸ List.mem_append_right _ (.head _)
                  have mown3 : ∀ p ∈ own3, p ∈ rest4 := fun p hp => hrest4 ▸ List.mem_append_right _ (.tail _ hp)
                  have m24 : ∀ p ∈ rest2, p ∈ rest4 := fun p hp => m34 p (List.mem_append_right _ (m23 p hp))
                  clear hrest4
                  have h13m : ∀ p ∈ rest2, h13.get? p.1 = some p.2 := fun p hp => (hN16 p (.tail _ (m24 p hp))).1
                  have hTl : (T2 i1).length = i + 1 := by have := hcnt2 i1 (by omega); dsimp only at this; rw [this, if_neg (Nat.lt_irrefl _)]; omega
                  have hTr : i + 1 - ci - 1 < (T2 (i1 + ci + 1)).length := by have := hcnt2 (i1 + ci + 1) (by omega); dsimp only at this; rw [this, if_neg (by omega)]; omega
                  obtain ⟨c1, hc1⟩ : ∃ d, (T2 i1)[ci]? = some d := ⟨_, List.getElem?_eq_getElem (by omega)⟩
                  obtain ⟨c2, hc2⟩ : ∃ d, (T2 (i1 + ci + 1))[i + 1 - ci - 1]? = some d := ⟨_, List.getElem?_eq_getElem hTr⟩
                  have k1 := hA2.cells i1 (by omega) ci c1 hc1
                  have k2 := hA2.cells (i1 + ci + 1) (by omega) (i + 1 - ci - 1) c2 hc2
                  obtain ⟨e1, he1, hg1⟩ := last_ref k1.ne
                  obtain ⟨e2, he2, hg2⟩ := first_ref k2.ne
                  have hz1 := k1.sz
                  have hz2 := k2.sz
                  try dsimp only
                  walk_at "my own"
                  have hTls : (List.map (fun j => Value.ref (ra j)) (List.range os.length)).length ≤ 5 := by simp; omega
                  refine item_list ⟨_, h13m _ mtbl, rfl, _, rfl⟩ (by omega) (by omega) (by rw [show (0 + (i1 : Int)).toNat = i1 by omega]; exact ref_row (by omega)) ?_
                  try dsimp only
                  walk_at "my own"
                  refine item_list ⟨_, h13m _ (mrow (by omega)), rfl, _, rfl⟩ (by omega) (by omega) (by rw [show (0 + (ci : Int)).toNat = ci by omega]; exact cell_row hc1) ?_
                  try dsimp only
                  walk_at "my own"
                  refine item_list_neg ⟨_, h13m _ (mobj _ k1.at_), rfl, _, rfl⟩ (by decide) (by decide) (by have := List.length_pos_iff.mpr k1.ne; simp; omega) hg1 ?_
                  try dsimp only
                  walk_at "my own"
                  rename Fr _ _ _ _ => hF17
                  rename News _ _ _ _ => hN17
                  refine item_list ⟨_, (hN17 _ (.tail _ (m24 _ mtbl))).1, rfl, _, rfl⟩ (by omega) (by omega) (by rw [show (0 + (i1 : Int) + (0 + (ci : Int)) + 1).toNat = i1 + ci + 1 by omega]; exact ref_row (by omega)) ?_
                  try dsimp only
                  walk_at "my own"
                  refine item_list ⟨_, (hN17 _ (.tail _ (m24 _ (mrow (by omega))))).1, rfl, _, rfl⟩ (by omega) (by omega) (by rw [show (1 + (i : Int) - (0 + (ci : Int)) - 1).toNat = i + 1 - ci - 1 by omega]; exact cell_row hc2) ?_
                  try dsimp only
                  walk_at "my own"
                  refine item_list ⟨_, (hN17 _ (.tail _ (m24 _ (mobj _ k2.at_)))).1, rfl, _, rfl⟩ (by decide) (by decide) hg2 ?_
                  try dsimp only
                  walk_at "my own"
                  rename Fr _ _ _ _ => hF18
                  rename News _ _ _ _ => hN18
                  have hL1 : i1 + ci < bs.length := by omega
                  have hL2 : i1 + ci + 1 + (i + 1 - ci - 1) < bs.length := by omega
                  have o1 : EnOk 315 e1 := (k1.du e1 he1).ok (k1.st e1 he1) (stretch_ne hL1) (by rw [stretch_len hL1]; omega) fun d hd => hbk d (stretch_mem hd)
                  have o2 : EnOk 315 e2 := (k2.du e2 he2).ok (k2.st e2 he2) (stretch_ne hL2) (by rw [stretch_len hL2]; omega) fun d hd => hbk d (stretch_mem hd)
                  have g1 := fun p (hp : p ∈ e1.objs w.params) => (hN18 p (.tail _ (m24 _ (mobj _ (k1.ob p (List.mem_flatMap.mpr ⟨e1, he1, hp⟩)))))).1
                  have g2 := fun p (hp : p ∈ e2.objs w.params) => (hN18 p (.tail _ (m24 _ (mobj _ (k2.ob p (List.mem_flatMap.mpr ⟨e2, he2, hp⟩)))))).1
                  refine merge_en (((C0 _).keep (Fr.keep hF18)).le (by decide)) g1 g2 o1 o2 fun h19 tk19 em st19 hnew19 hstr19 q1 q2 q3 q4 => ?_
                  have hF19 := kept_fr hF18 st19
                  have hN19 := kept_news hN18 st19
                  have hDm : DueOf (d0 :: dr) em := by
                    rw [← hst, stretch_cut (a := ci) hci]
                    exact (k1.du e1 he1).merge (k2.du e2 he2) (stretch_ne hL1) (stretch_ne hL2) q1 q2 q3 q4
                  have om : EnOk 315 em := hDm.ok hstr19 (by simp) (by rw [← hst, stretch_len hib]; omega) fun d hd => hbk d (hdm d hd)
                  have fm := fun p hp => (hnew19 p hp).1
                  have nu1 := ua_ne fm g1
                  have nu2 := ua_ne fm g2
                  have nr1 := rl_ne fm g1
                  have nr2 := rl_ne fm g2
                  have newF : ∀ p ∈ em.objs w.params, ∀ q ∈ (lR, W.listOf (List.toArray (Mine.refsOf es)) nR) :: rest4, p.1 ≠ q.1 := fun p hp q hq => Ne.symm (ne_base (hN18 q hq).1 (fm p hp))
                  have hN20 : News s1.heap s1.heap.objs.size h19 ((lR, W.listOf (List.toArray (Mine.refsOf es)) nR) :: (em.objs w.params ++ rest4)) := by
                    refine news_push (hN19 _ (.head _)) fun p hp => ?_
                    rcases List.mem_append.mp hp with hp | hp
                    · exact news_fresh hF18 (hnew19 p hp).1 (hnew19 p hp).2
                    · exact hN19 p (.tail _ hp)
                  (try clear hF18); (try clear hN18); (try clear hF15); (try clear hN16); (try clear hF17); (try clear hN17); (try clear hN19); (try clear st19); (try clear hnew19); (try clear g1); (try clear g2); (try clear fm); (try clear q1); (try clear q2); (try clear q3); (try clear q4)
                  try dsimp only
                  walk_at "my own"
                  rename Fr _ _ _ _ => hF21
                  rename News _ _ _ _ => hN21
                  have g1 := fun p (hp : p ∈ e1.objs w.params) => (hN21 p (.tail _ (List.mem_append_right _ (m24 _ (mobj _ (k1.ob p (List.mem_flatMap.mpr ⟨e1, he1, hp⟩))))))).1
                  have g2 := fun p (hp : p ∈ e2.objs w.params) => (hN21 p (.tail _ (List.mem_append_right _ (m24 _ (mobj _ (k2.ob p (List.mem_flatMap.mpr ⟨e2, he2, hp⟩))))))).1
                  have gm := fun p (hp : p ∈ em.objs w.params) => (hN21 p (.tail _ (List.mem_append_left _ hp))).1
                  have m34' := fun p (hp : p ∈ rest3) => (hN21 p (.tail _ (List.mem_append_right _ (m34 p (List.mem_append_right _ hp))))).1
                  refine right_en (((C0 _).keep (Fr.keep hF21)).le (by decide)) gm g1 g2 ⟨m34' _ mB1, m34' _ mB2, m34' _ mB3⟩ hssD om hDm nu1 nu2 nr1 nr2 fun h22 tk22 st22 => ?_
                  have hF22 := kept_fr hF21 st22
                  have hN22 := kept_news hN21 st22
                  (try clear hF21); (try clear hN21); (try clear hN20); (try clear hF19); (try clear g1); (try clear g2); (try clear gm); (try clear m34'); (try clear st22)
                  try dsimp only
                  walk_at "my own"
                  refine app_at hF22 hN22 (.head _) (by simp; omega) fun h23 n23 hF23 hN23 => ?_
                  try dsimp only
                  walk_at "my own"
                  refine cut_step (I := I3) hF23 hN23 (fun p hp => ⟨.tail _ (List.mem_append_right _ (mown3 p hp)), ?_⟩) (fun p hp => ⟨.tail _ (List.mem_append_right _ (m34 p hp)), ?_⟩) (fun p hp => ⟨.tail _ (List.mem_append_left _ hp), newF p hp _ (.head _)⟩) hes heD heA ⟨hstr19, by rw [hst]; exact hDm⟩ (fun p hp => ⟨newF p hp _ (.tail _ mI3), fun q hq => newF p hp q (.tail _ (m34 q (List.mem_append_right _ hq)))⟩) (hoff3 _ (.head _)) (fun p hp => hoff3 p (.tail _ hp)) ?_
                  · rw [hown3 p hp]; exact (hoff3 _ (.head _)).symm
                  · rcases List.mem_append.mp hp with hp | hp
                    · exact (heA p hp).1
                    · exact hRne3 p hp
                  · intro y hy
                    simp only [List.mem_cons, List.not_mem_nil, or_false, not_or] at hy
                    simp only [hy, if_false]
                · rintro u9 news₁ h13 tk13 ⟨es, nR, rfl, hes, heD, heA⟩ hF15 hN15
                  simp only [overs] at hF15
                  (try clear hF13); (try clear hN13); (try clear hF14); (try clear hN14); (try clear hR3)
                  have hlt1 : i1 < os.length := by omega
                  have hTl : (T2 i1).length = i + 1 := by have := hcnt2 i1 (by omega); dsimp only at this; rw [this, if_neg (Nat.lt_irrefl _)]; omega
                  have hTls : (List.map (fun j => Value.ref (ra j)) (List.range os.length)).length ≤ 5 := by simp; omega
                  obtain ⟨rest5, hrest5⟩ : ∃ r, r = (lR, W.listOf (List.toArray (Mine.refsOf es)) nR) :: (flatE w.params es ++ rest3) := ⟨_, rfl⟩
                  rw [← hrest5] at hN15
                  have m35 : ∀ p ∈ rest3, p ∈ rest5 := fun p hp => hrest5 ▸ .tail _ (List.mem_append_right _ hp)
                  have hN16 : News s1.heap s1.heap.objs.size h13 ((ra i1, W.listOf (List.toArray (rowVals (T2 i1))) (cap2 i1)) :: rest5) := news_push (hN15 _ (m35 _ (m23 _ (mrow hlt1)))) hN15
                  clear hN15
                  try dsimp only
                  walk_at "my own"
                  refine item_list ⟨_, (hN16 _ (.tail _ (m35 _ (m23 _ mtbl)))).1, rfl, _, rfl⟩ (by omega) (by omega) (by rw [show (0 + (i1 : Int)).toNat = i1 by omega]; exact ref_row (by omega)) ?_
                  try dsimp only
                  walk_at "my own"
                  refine app_at hF15 hN16 (.head _) (by simp; omega) fun h23 n23 hF23 hN23 => ?_
                  try dsimp only
                  walk_at "my own"
                  refine start_step (cap := cap2) (lR := lR) (oI2 := oI2) (rest3 := rest3) (es := es) (nR := nR) hA2 hcnt2 hi1 hon inj hoff2 hown2 (m23 _ mI2) (fun p hp => m23 p (mown2 p hp)) (fun p hp => m23 p (mtab p hp)) hRne3 hes heD heA hF23 hN23 (fun p hp => .tail _ (hrest5 ▸ hp)) ?_
                  intro y hy
                  simp only [List.mem_cons, List.not_mem_nil, or_false, not_or] at hy
                  simp only [hy, if_false]
              · rintro u8 news₁ h8 tk8 ⟨T2, cap2, objs2, rfl, hA2, hcnt2⟩ hF8 hN8'
                obtain ⟨hA3, hoff3⟩ := tab_out (cap := cap2) hA2
                try dsimp only
                walk_at "my few"
                refine LoopStepU.intro hF8 (news₂ := rowsOf ra T2 cap2 os.length ++ (objs2 ++ [])) (fun p hp => ?_) (fun p hp => ?_) ⟨?_, T2, cap2, objs2, rfl, hA3, fun j hj => ?_⟩
                · rw [List.append_nil] at hp
                  rcases List.mem_append.mp hp with hp | hp
                  · exact hN8' p (List.mem_append_right _ (List.mem_append_right _ (.tail _ hp)))
                  · rcases List.mem_append.mp hp with hp | hp
                    · exact hN8' p (List.mem_append_left _ hp)
                    · exact hN8' p (List.mem_append_right _ (List.mem_append_left _ hp))
                · rw [List.mem_singleton]; exact hoff3 p hp
                · intro y hy
                  simp only [List.mem_cons, List.not_mem_nil, or_false, not_or] at hy
                  simp only [overs, hy, if_false]
                · have := hcnt2 j hj
                  dsimp only at this
                  rw [this]
                  dsimp only
                  split <;> omega
            · rintro u7 news₁ h7 tk7 ⟨T, cap, objs, rfl, hA, hcnt⟩ hF7 hN7'
              simp only [overs] at hF7
              have mbase : ∀ p ∈ more, p ∈ rowsOf ra T cap os.length ++ (objs ++ []) := fun p hp => List.mem_append_right _ (List.mem_append_left _ (hA.base p (.tail _ hp)))
              generalize rowsOf ra T cap os.length ++ (objs ++ []) = rest at mbase hN7'
              (try clear hN7); (try clear hF6)
              clear hA hcnt hT0W
              try dsimp only
              walk_at "my own"
              refine' For_invV s1.heap ?q1 ?q2 ?_ ?q3 ?q4
              case q1 => exact rfl
              case q2 => exact rfl
              case q3 => intro _; rfl
              case q4 => passes_own
              walk_at "my own"
              refine len_list ⟨_, (hN7' _ (mbase _ hO2)).1, rfl, _, rfl⟩ (by simp; omega) ?_
              try dsimp only
              walk_at "my own"
              refine range_one hF7 hN7' fun h8 tk8 r8 ta tb tc hR8 hF8 hN8 => ?_
              (try clear hN7'); (try clear hF7)
              try dsimp only
              refine iter_rangeK2 (n := os.length) [Str.ofString "twice"] (fun _ news => news = rest) rfl hR8 (range_small (by decide) (by decide) (by omega) (by simp; omega)) (by rw [rangeSize_nat]; simp) hF8 hN8 rfl ?_ ?_
              · rintro ci ct u9 news₁ h13 tk13 I3 own3 hci hnr hoff3 hown3 ⟨oI3, hoI3⟩ hLI3 hbI3 hF15 hN15
                simp only [overs] at hF15
                rw [hnr] at hN15 hoff3
                clear hnr
                (try clear hF8); (try clear hN8); (try clear hR8)
                have hcib : ci < bs.length := by omega
                obtain ⟨e1, hge⟩ : ∃ e, os[ci]? = some e := ⟨_, List.getElem?_eq_getElem hci⟩
                obtain ⟨d1, hgd⟩ : ∃ d, bs[ci]? = some d := ⟨_, List.getElem?_eq_getElem hcib⟩
                have he1 := List.mem_of_getElem? hge
                have hd1 := List.mem_of_getElem? hgd
                have hBO := hbo ci e1 d1 hge hgd
                have o1 : EnOk 315 e1 := (hok e1 he1).le (by omega)
                have hK1 := hbk d1 hd1
                have hrl : (Mine.refsOf os).length ≤ 5 := by simp; omega
                have hbl5 : (bs.map fun d => Value.ref d.b).length ≤ 5 := by simp; omega
                have hgo : (Mine.refsOf os)[(0 + (ci : Int)).toNat]? = some (.ref e1.a) := by rw [show (0 + (ci : Int)).toNat = ci by omega, Mine.refsOf, List.getElem?_map, hge]; rfl
                have hgb : (bs.map fun d => Value.ref d.b)[(0 + (ci : Int)).toNat]? = some (.ref d1.b) := by rw [show (0 + (ci : Int)).toNat = ci by omega, List.getElem?_map, hgd]; rfl
                have hN16 : News s1.heap s1.heap.objs.size h13 ((I3, oI3) :: (rest ++ own3)) := news_push ⟨hoI3, Ne.symm hLI3, hbI3⟩ hN15
                clear hN15
                generalize hrr : (I3, oI3) :: (rest ++ own3) = rest6 at hN16
                have m6 : ∀ p ∈ more, p ∈ rest6 := fun p hp => hrr ▸ .tail _ (List.mem_append_left _ (mbase p hp))
                have m6r : ∀ p ∈ own3 ++ rest, p ∈ rest6 := fun p hp => by
                  rw [← hrr]
                  rcases List.mem_append.mp hp with hp | hp
                  · exact .tail _ (List.mem_append_right _ hp)
                  · exact .tail _ (List.mem_append_left _ hp)
                clear hrr
                try dsimp only
                walk_at "my own"
                refine item_list ⟨_, (hN16 _ (m6 _ hO2)).1, rfl, _, rfl⟩ (by omega) (by omega) hgo ?_
                try dsimp only
                walk_at "my own"
                refine item_list ⟨_, (hN16 _ (m6 _ hO2)).1, rfl, _, rfl⟩ (by omega) (by omega) hgo ?_
                try dsimp only
                walk_at "my own"
                have g1 := fun p (hp : p ∈ e1.objs w.params) => (hN16 p (m6 p (hos e1 he1 p hp))).1
                refine merge_en (((C0 _).keep (Fr.keep hF15)).le (by decide)) g1 g1 o1 o1 fun h19 tk19 em st19 hnew19 hstr19 q1 q2 q3 q4 => ?_
                have hF19 := kept_fr hF15 st19
                have hDm : DueOf (d1 :: [d1]) em := (DueOf.one hBO hK1).merge (DueOf.one hBO hK1) (by simp) (by simp) q1 q2 q3 q4
                have om : EnOk 315 em := hDm.ok hstr19 (by simp) (by simp) fun d hd => by
                  rcases List.mem_cons.mp hd with rfl | hd
                  · exact hK1
                  · rw [List.mem_singleton.mp hd]; exact hK1
                have fm := fun p hp => (hnew19 p hp).1
                have nu1 := ua_ne fm g1
                have nr1 := rl_ne fm g1
                have hN20 : News s1.heap s1.heap.objs.size h19 (em.objs w.params ++ rest6) := fun p hp => by
                  rcases List.mem_append.mp hp with hp | hp
                  · exact news_fresh hF15 (hnew19 p hp).1 (hnew19 p hp).2
                  · exact kept_news hN16 st19 p hp
                clear fm g1 q1 q2 q3 q4 hnew19 st19 hN16 hF15
                have m7 : ∀ p ∈ more, p ∈ em.objs w.params ++ rest6 := fun p hp => List.mem_append_right _ (m6 p hp)
                have m7e : ∀ p ∈ em.objs w.params, p ∈ em.objs w.params ++ rest6 := fun p hp => List.mem_append_left _ hp
                have m7r : ∀ p ∈ own3 ++ rest, p ∈ em.objs w.params ++ rest6 := fun p hp => List.mem_append_right _ (m6r p hp)
                generalize em.objs w.params ++ rest6 = rest7 at hN20 m7 m7e m7r
                try dsimp only
                walk_at "my own"
                rename Fr _ _ _ _ => hF21
                rename News _ _ _ _ => hN21
                refine item_list ⟨_, (hN21 _ (m7 _ hO2)).1, rfl, _, rfl⟩ (by omega) (by omega) hgo ?_
                try dsimp only
                walk_at "my own"
                refine item_list ⟨_, (hN21 _ (m7 _ hO2)).1, rfl, _, rfl⟩ (by omega) (by omega) hgo ?_
                try dsimp only
                walk_at "my own"
                refine item_list ⟨_, (hN21 _ (m7 _ hB2)).1, rfl, _, rfl⟩ (by omega) (by omega) hgb ?_
                try dsimp only
                walk_at "my own"
                refine item_list ⟨_, (hN21 _ (m7 _ hB2)).1, rfl, _, rfl⟩ (by omega) (by omega) hgb ?_
                try dsimp only
                walk_at "my own"
                refine newList_N hF21 hN21 fun h22 hF22 hN22 => ?_
                try dsimp only at hN22
                try dsimp only
                walk_at "my own"
                have hB7 : ∀ p ∈ bkObjs d1, p ∈ rest7 := fun p hp => m7 p (hbm2 d1 hd1 p hp)
                have hdd : ∀ d ∈ [d1, d1], d = d1 := fun d hd => by
                  rcases List.mem_cons.mp hd with rfl | hd
                  · rfl
                  · exact List.mem_singleton.mp hd
                refine due_spec (((C0 _).keep (Fr.keep hF22)).le (by decide)) (d0 := d1) (bs := [d1]) ⟨_, (hN22 _ (.head _)).1, rfl, _, rfl⟩ (fun d hd => by rw [hdd d hd]; exact ⟨objs_book fun p hp => (hN22 p (.tail _ (hB7 p hp))).1, hK1.ss⟩) (by simp) (fun d hd => by rw [hdd d hd]; exact ⟨Nat.le_trans hK1.vl (by decide), Nat.le_trans hK1.rl (by decide)⟩) (fun d hd => by rw [hdd d hd]; exact ⟨okV_plain hK1.de, okV_plain hK1.ra⟩) fun h23 tk23 bD AD RD vsD kD nD mD st23 f1 f2 f3 hBD hssD => ?_
                have hF23 := kept_fr hF22 st23
                have hN23 : News s1.heap s1.heap.objs.size h23 rest7 := fun p hp => kept_news hN22 st23 p (.tail _ hp)
                (try clear hF22); (try clear hN22); (try clear hF21); (try clear hN21)
                clear f1 f2 f3 st23
                try dsimp only
                walk_at "my own"
                have g1 := fun p (hp : p ∈ e1.objs w.params) => (hN23 p (m7 p (hos e1 he1 p hp))).1
                refine right_en (((C0 _).keep (Fr.keep hF23)).le (by decide)) (fun p hp => (hN23 p (m7e p hp)).1) g1 g1 hBD hssD om hDm nu1 nu1 nr1 nr1 fun h24 tk24 st24 => ?_
                have hF24 := kept_fr hF23 st24
                have hN24 := kept_news hN23 st24
                clear g1 st24 hBD hF23 hN23
                try dsimp only
                walk_at "my own"
                refine LoopStepU.intro hF24 (news₂ := rest) (fun p hp => hN24 p (m7r p hp)) (fun p hp => ?_) ⟨fun y hy => ?_, rfl⟩
                · rw [List.mem_singleton]; exact hoff3 p hp
                · simp only [List.mem_cons, List.not_mem_nil, or_false, not_or] at hy
                  simp only [hy, if_false]
              · rintro u9 news₁ h13 tk13 hnr hF15 hN15
                simp only [overs] at hF15
                rw [hnr] at hN15
                clear hnr
                (try clear hF8); (try clear hN8); (try clear hR8)
                try dsimp only
                walk_at "my own"
                refine eval_each (BooksW os) rfl rfl ?_ rfl ?_ rfl ?_
                rotate_left 2
                · walk_at "my own"
                  refine ⟨lO, Mine.refsOf os, rfl, ⟨_, (hN15 _ (mbase _ hO2)).1, rfl, _, rfl⟩, by simp; omega, books_zero _, ?_, ?_⟩
                  · intro C i v s₃ m₃ E' ys objs hv hn₃ hx₃ hk₃ ho₃ hW₃
                    have hk₄ : ∀ b o, h13.get? b = some o → s₃.heap.get? b = some o := fun b o e => hk₃ b o (List.not_mem_nil) e
                    walk_at "my own"
                    obtain ⟨e1, he1, rfl⟩ := refs_at hv
                    have hm1 := List.mem_of_getElem? he1
                    have ok1 := (hok e1 hm1).le h63
                    rename Fr _ _ _ _ => hF16
                    rename News _ _ _ _ => hN16
                    have hen := ent_of (P := w.params) (h := s₃.heap) (e := e1) fun p hp => (hN16 p (mbase p (hos e1 hm1 p hp))).1
                    refine parts_spec (((C0 _).keep (Fr.keep hF16)).le (by decide)) hen (Nat.le_trans ok1.vl (by decide)) (Nat.le_trans ok1.rl (by decide)) (okV_handed ok1.de) (okV_handed ok1.ra) fun h' tk b A R k n m st g1 g2 g3 hB o1 o2 => ?_
                    refine ⟨⟨h', tk, rfl, st⟩, bkObjs ⟨b, A, R, e1.vs, e1.rs, e1.ss, e1.de, e1.ra, k, n, m⟩, fun p hp => ⟨?_, book_objs (d := ⟨b, A, R, e1.vs, e1.rs, e1.ss, e1.de, e1.ra, k, n, m⟩) hB p hp⟩, books_step (d := ⟨b, A, R, e1.vs, e1.rs, e1.ss, e1.de, e1.ra, k, n, m⟩) hW₃ he1 ⟨rfl, rfl, rfl, rfl, rfl⟩⟩
                    simp only [bkObjs, List.mem_cons, List.not_mem_nil, or_false] at hp
                    rcases hp with rfl | rfl | rfl
                    · exact g1
                    · exact g2
                    · exact g3
                  · rintro D h17 tk17 ys objs2 c2 hD0 hD hob hkp ⟨bs2, hb2l, rfl, hb2m, hb2o⟩
                    have hF17 := kept_fr hF15 hkp
                    have hN17 := kept_news hN15 hkp
                    try dsimp only
                    walk_at "my own"
                    refine eq_books (h₀ := h13) (os := os) (bs := bs) (bs2 := bs2) (cB := cB) (c := c2) (by show callerA.units + 3 + 4 < _; decide) (by simpa using hb2l) hbl hb2o hbo hD (hN17 _ (mbase _ hB2)).1 (fun d hd p hp => ⟨(hob p (hb2m d hd p hp)).1, (hob p (hb2m d hd p hp)).2.1⟩) (fun d hd p hp => ⟨(hN17 p (mbase p (hbm2 d hd p hp))).1, (hN15 p (mbase p (hbm2 d hd p hp))).1⟩) ?_
                    try dsimp only
                    walk_at "my own"
                    wrow_close
                all_goals decide
        all_goals decide
    all_goals decide
